import PyProof.Rows.All
import PyProof.ZipIter
import KE.KDictLaws
import KE.KFromBytes
import KE.KItemsList
import Wide.FinOn
import OpenK.AllK
import Wide.All
import Lean
import PySem.Challenge.RW_dm0053_08
set_option Elab.async false
set_option genInjectivity false
set_option genSizeOf false
set_option genCtorIdx false
set_option maxRecDepth 100000
set_option tactic.hygienic false
set_option linter.all false
set_option bootstrap.genMatcherCode false
set_option compiler.extract_closed false
open PySem PySem.W PyProof.Rows PySem.Calls
namespace Mine.Internal
open Lean in
local macro_rules (kind := Lean.Parser.Term.omission)
| s => return mkNode `Lean.Parser.Term.byTactic #[mkAtom "by",mkNode `Lean.Parser.Tactic.tacticSeq #[mkNode `Lean.Parser.Tactic.tacticSeq1Indented #[mkNullNode #[mkNode `tacticKernel_rfl #[mkAtom "kernel_rfl"]]]]]
open Lean in
local macro_rules (kind := Lean.Parser.Command.declaration)
| x => if x[1].isOfKind `Lean.Parser.Command.definition && x[0][4].isNone then return x.setArg 0 (x[0].setArg 4 (mkNullNode #[mkNode `Lean.Parser.Command.noncomputable #[mkAtom "noncomputable"]])) else Macro.throwUnsupported
open List (getElem?_eq_getElem getElem?_eq_none_iff)
open Int (not_le)
open Nat (beq ble blt)
open Option (pure_def)

open _root_.Option renaming some→am,none→ba,bind_eq_some_iff→bn,map_eq_some_iff→dy,map_some→qd,isSome_iff_exists→qf,bind_eq_bind→vw
open _root_ renaming List→aq,Option→bc,decide_eq_true→bm,decide_eq_false→bp,absurd→bv,if_neg→bz,congrArg→b3,if_pos→ca,of_decide_eq_true→cb,Bool→ec,False→f7,Array→jf,beq_iff_eq→kr,cond_true→mi,cond_false→ow,beq_eq_false_iff_ne→pd,if_false→pg,True→qm,String→qp,beq_self_eq_true→qr,decide_eq_decide→qt,Unit→uq,bne_iff_ne→vu,if_true→vx,or_false→vz
open _root_.Bool renaming true→be,and_eq_true_iff→du,false_eq_true→jv,eq_false_iff→uf
open _root_.List renaming length_map→bg,length_append→bq,map_append→bI,prefix_refl→cc,getD_eq_getElem?_getD→ce,mem_cons_self→c3,append_assoc→dt,mem_singleton→dv,not_mem_nil→dz,length_cons→ea,mem_of_getElem?→eg,mem_cons_of_mem→eh,pairwise_cons→et,mem_cons→e6,mem_append→e7,getElem?_set_self→fp,getElem?_map→gh,length_singleton→gu,prefix_append→gy,append_nil→gz,getElem?_append_right→gM,getElem?_eq_none→gV,eq_nil_of_length_eq_zero→ie,filterMap_cons_some→ik,all_eq_true→iu,getElem?_set_ne→iy,filterMap_cons_none→iz,filterMap_append→je,mem_append_right→jr,getElem?_append_left→jx,find?_cons_of_neg→jD,mem_append_left→ka,map_cons→kn,length_nil→ky,getElem?_of_mem→kM,flatMap_cons→lp,find?_cons_of_pos→lq,forIn_cons→lw,length_drop→mB,cons_ne_nil→m0,mem_map→nq,nil_append→nu,drop_eq_nil_iff→nN,drop_left→nO,take_of_length_le→og,map_congr_left→ot,map_eq_nil_iff→ox,contains_iff_mem→oz,map_map→pp,filterMap_cons→qe,length_range→qi,mem_map_of_mem→ql,filterMap→qs,pairwise_map→r7,length_take→sM,set_set→sO,drop_drop→tq,size_toArray→tu,head?_drop→uc,flatten_cons→ue,ext_getElem→uR,mapM_cons→uU,forIn_nil→u0,find?_cons→vo,mem_filter→vr
open PySem renaming Shared→bo,Value→bt,wpAny→bw,wpAny_holding→bx,builtinLookup_eq_fast→dx,Addr→d3,sizeLine_eq→ez,wpAny_callSpecial?_slot→e8,starEach→e9,Around→fq,Params→ft,wpAny_call_entry→fu,wpAny_newObj_type→fv,typeLookup_type→fx,wpAny_mono→f4,wpAny_standAt→f5,assignEach→gj,mainGlobals→gw,wpAny_field→gx,typeLookup→g4,wpAny_seqItems→hE,foldedSetIterable→ip,model→ir,isSubtype_type→ja,eval→jc,Stmt→jg,compareOp→jo,seqIndex?→jt,wpAny_call→ju,wpAny_of_eq→jy,codeAny_call_builtin→jz,World→kb,swappedStores→kf,attributeBase→kg,Heap→kh,wpAny_isInstance→ki,builtinsNs→kl,NameKind→ko,callEnvC→kq,slot_listiter_next→ku,codeAny_mono→k4,wpAny_Call_ofName→k6,backTo→lr,wpAny_onRaise→lu,Comprehension→lx,wpAny_attempt→ly,codeAny→lz,PyData→mc,entryFor_of_tree→mh,pyNext→nr,codeAny_of_tree→ny,letTemporaryGo→on,sysModules→oq,clipAt→pe,Program→pj,wpAny_specialOf→pn,wpAny_rule→pt,execs→pu,isSubtype→pv,builtinKind→px,valueAt→pG,GenState→pH,wpAny_truthy_bool→pX,wpAny_pyNext_list_item→qa,wpAny_pyIter_list→qb,wpAny_setField→qg,isSubtype_stop→qh,builtinsGlobalAsBooted→qk,wpAny_items_cons→qo,getItem→qw,assignInOrder→qx,binaryOp→qN,interactive→qW,sliceBounds→qX,Result→qZ,wpAny_updateSeq→q4,fresh→ri,Scope→rq,entry_listiter_next→rx,swapsWith→sb,intKind_is→sg,entryFor→si,table→sj,checkBoundCall→sp,wpAny_newFunctionEnv_cells→sr,args_listiter_next→ss,intKind→sv,holding→sx,wpAny_assign_Name→sy,argsOk→sY,wpAny_handled→s7,foldedForSure→th,wpAny_listSubscript_int→tj,wpAny_pyIter_gen→tm,typeOf→tt,wpAny_typeOf→tw,isInstance→tz,callSpecial?→tF,OsState→ua,wpAny_items_nil→ug,wpAny_execs_nil→uh,letOwnedTupleGo→ui,execs_cons_wrap→uj,theTreesLotGoes→uk,wpAny_pyNext_list_end→um,getitemInPython_of_ne→uo,sizeLine→ur,wpAny_letTemporaryGo→ut,entryFor_alias→uu,wpAny_loadPart→uv,FuncData→uw,wpAny_throw→ux,unsupported→uy,wpAny_letGo→uz,staticOf→uS,Keyword→uV,getAttr→uX,behindInMarks→ve,plainId_quiet→vf,comprehension→vg,wpAny_newList→vi,bltViewBooted→vj,table_eq_tree→vk,assign→vm,pyIter→vn,call_meets→vq,setItem→vy,Flow→wc,IsPart→wd,DictEntry→we,denote→wf,Model→wg,Reads→wh,keywordEach→wi,standAt→wk,plainId→wm,Builtin→wn,callerA→wo,callWith→wq,mainNs→wv,cStatics→ww,IsPair→wy,field→wz
open _root_.Int renaming le_refl→c4,le_trans→dw,natCast_nonneg→fz,sub_nonneg_of_le→h7,lt_of_lt_of_le→iw,toNat_natCast→jb,le_of_lt→jd,eq_ofNat_of_zero_le→jp,add_zero→jq,zero_add→kj,not_lt→kz,lt_irrefl→kZ,add_assoc→me,min_eq_right→m3,max_eq_left→oh,ofNat_le→pF,max_eq_right→ry,min_eq_left→su,le_max_right→ud,le_of_eq→vv
open PySem.W renaming boot_heap→eo,boot_drawn→hB,looks_findIn→lh,callWith_of→om,Looks→ph,boot_toks→pz,topStub→qj,Frag→tf,check_slot→ty,absHeap→ub,looks_subIn→uP,ReadsAllW→u8,namesBound→vt,boot_o_0→vI,WRecords→wb,boot_o_2→wt,boot_o_4→wu,laidKept→wx
open _root_.Nat renaming lt_of_le_of_lt→hV,lt_trans→iq,le_of_ble_eq_true→iH,zero_le→jw,ne_of_lt→md,le_add_left→ou,succ_ne_self→oy,le_succ_of_le→pi,sub_self→pI,lt_succ_self→qc,lt_or_ge→qy,zero_lt_one→qY,succ_le_succ→rz,le_add_right→r5,le_succ→vH,add_comm→wa
open PyProof.Rows renaming slot_tupleiter_next→ma,slot_tuple_getitem→pq,seqObj→qq,AllBare→qu,get?_update_seq→q8,listUpdate_at→td,entry_tupleiter_next→uQ,pairsOf→u6,args_tupleiter_next→vd,seqEpoch_at→wj
open _root_.LawfulBEq renaming eq_of_beq→se
section
variable{a b c d e f g h i j k l:Int}{m n p q r s t u v w x y:Nat}
def zzB:=@wpAny_bind
def zzP:=@wpAny_pure
theorem zzE{n k:Nat}:n<(k+1)*(n/(k+1)+1):=Nat.lt_mul_div_succ n (Nat.succ_pos k)
theorem zzD:2*(n/2)<=n:=Nat.mul_div_le n 2
@[elab_as_elim]theorem rwL{α:Sort u}{motive:α->Prop}{a b:α}(h:a=b)(k:motive b):motive a:=h▸k
@[elab_as_elim]theorem rwR{α:Sort u}{motive:α->Prop}{a b:α}(h:a=b)(k:motive a):motive b:=h▸k
@[elab_as_elim]theorem cxSP{α:Type u}{β:Type v}{motive:α->β->Prop}{a c:α}{b d:β}(h:am (a,b)=am (c,d))(k:motive a b):motive c d:=by cases h; exact k
@[elab_as_elim]theorem cxS{α:Type u}{motive:α->Prop}{a b:α}(h:am a=am b)(k:motive a):motive b:=by cases h; exact k
@[elab_as_elim]theorem cxP{α:Type u}{β:Type v}{motive:α->β->Prop}{a c:α}{b d:β}(h:(a,b)=(c,d))(k:motive a b):motive c d:=by cases h; exact k
theorem cySP{α:Type u}{β:Type v}{a c:α}{b d:β}{P:Prop}(h:am (a,b)=am (c,d))(k:a=c->b=d->P):P:=by cases h; exact k rfl rfl
theorem cyS{α:Type u}{a c:α}{P:Prop}(h:am a=am c)(k:a=c->P):P:=by cases h; exact k rfl
theorem cyM{α:Type u}{a:α}{P:Prop}(h:am a=ba):P:=nomatch h
namespace Z
inductive T |v (i:Nat) |k (n:Nat) |o (c:Nat) (x y:T)
noncomputable abbrev Ln:=Int×aq Int×aq Int
noncomputable abbrev Al:=aq (aq Ln×Ln)
def dot(a:aq Int):aq Int->Int:=a.rec (λq=>0) λc q r x=>match x with | []=>0 |x::xs=>c*x+r xs
def ladd(a:aq Int):aq Int->aq Int:=a.rec (λb=>b) λc cs r b=>match b with | []=>c::cs |x::xs=>(c+x)::r xs
theorem i4(a b c d:Int):a+b+(c+d)=a+c+(b+d):=by omega
theorem aAp(a:aq Int):∀ b x,dot (ladd a b) x=dot a x+dot b x:=by
 induction a with
 |nil=>exact λb x=>(kj _).symm
 |cons a d f=>
  intro b x
  cases b with
  |nil=>exact(jq _).symm
  |cons b e=>
   cases x with
   |nil=>rfl
   |cons x c=>
    show(a+b)*x+dot (ladd d e) c=(a*x+dot d c)+(b*x+dot e c)
    rw[f,Int.add_mul,i4]
theorem aAo(k:Int)(a:aq Int):∀ x,dot (a.map (k* ·)) x=k*dot a x:=by
 induction a with
 |nil=>exact λx=>(Int.mul_zero _).symm
 |cons a b d=>
  intro x
  cases x with
  |nil=>exact(Int.mul_zero _).symm
  |cons x c=>
   show k*a*x+dot (b.map (k* ·)) c=k*(a*x+dot b c)
   rw[d,Int.mul_add,Int.mul_assoc]
def un(i:Nat):aq Int:=i.rec [1] λq r=>0::r
theorem aGe(i:Nat):∀ x:aq Int,dot (un i) x=x.getD i 0:=by
 induction i with
 |zero=>intro x;cases x with
  |nil=>rfl
  |cons x a=>exact(jq _).trans (Int.one_mul _)
 |succ i b=>intro x;cases x with
  |nil=>rfl
  |cons x a=>exact(b3 (·+_) (Int.zero_mul x)).trans ((kj _).trans (b a))
def la(a b:Ln):Ln:=(a.1+b.1,ladd a.2.1 b.2.1,ladd a.2.2 b.2.2)
def lm(k:Int)(a:Ln):Ln:=(k*a.1,a.2.1.map (k* ·),a.2.2.map (k* ·))
def ls(a b:Ln):Ln:=la a (lm (-1) b)
def lk(k:Int):Ln:=(k,[],[])
def ev(xs:aq Int)(ns:aq Nat)(l:Ln):Int:=l.1+(dot l.2.1 xs+dot l.2.2 (ns.map Nat.cast))
theorem aF3(xs:aq Int)(ns:aq Nat)(a b:Ln):ev xs ns (la a b)=ev xs ns a+ev xs ns b:=by
 show a.1+b.1+(dot (ladd _ _) _+dot (ladd _ _) _)=a.1+(_+_)+(b.1+(_+_))
 rw[aAp,aAp,i4 (dot a.2.1 xs)];exact i4 ..
theorem aF2(xs:aq Int)(ns:aq Nat)(k:Int)(a:Ln):ev xs ns (lm k a)=k*ev xs ns a:=by
 show k*a.1+(dot (List.map _ _) _+dot (List.map _ _) _)=k*(a.1+(_+_))
 rw[aAo,aAo,Int.mul_add,Int.mul_add]
theorem rU(xs:aq Int)(ns:aq Nat)(a b:Ln):ev xs ns (ls a b)=ev xs ns a-ev xs ns b:=by rw[ls,aF3,aF2,Int.neg_mul,Int.one_mul,Int.sub_eq_add_neg]
theorem qM(xs:aq Int)(ns:aq Nat)(k:Int):ev xs ns (lk k)=k:=jq k
def Sg(xs:aq Int)(ns:aq Nat)(g:aq Ln):Prop:=∀ q∈g,0<=ev xs ns q
def Sa(xs:aq Int)(ns:aq Nat)(a:Al)(z:Int):Prop:=∃ p∈a,Sg xs ns p.1/\ev xs ns p.2=z
def Sd(xs:aq Int)(ns:aq Nat)(d:aq (aq Ln)):Prop:=∃ g∈d,Sg xs ns g
def pr{β:Type}(f:aq Ln->Ln->Ln->aq β)(a b:Al):aq β:=a.flatMap λp=>b.flatMap λq=>f (p.1++q.1) p.2 q.2
theorem Sg.app{a b:aq Ln}(h:Sg xs ns a)(g:Sg xs ns b):Sg xs ns (a++b):=λq m=>(e7.mp m).elim (h q) (g q)
theorem Sg.sn{a:aq Ln}{l:Ln}(h:Sg xs ns a)(g:0<=ev xs ns l):Sg xs ns (a++[l]):=h.app λq m=>dv.mp m▸g
theorem Sg.nil:Sg xs ns []:=λq h=>bv h dz
theorem sJ{f:aq Ln->Ln->Ln->aq β}{a b:Al}{x y:Int}{P:β->Prop}(h:Sa xs ns a x)(g:Sa xs ns b y)(k:∀ u v w,Sg xs ns u->ev xs ns v=x->ev xs ns w=y->∃ z∈f u v w,P z):∃ z∈pr f a b,P z:=h.elim λp h=>g.elim λq g=>(k _ _ _ (h.2.1.app g.2.1) h.2.2 g.2.2).elim λz m=>⟨z,List.mem_flatMap.mpr ⟨p,h.1,List.mem_flatMap.mpr ⟨q,g.1,m.1⟩⟩,m.2⟩
theorem Sa.one{l:Ln}(h:ev xs ns l=z):Sa xs ns [([],l)] z:=⟨_,List.mem_singleton_self _,.nil,h⟩
def op(c:Nat)(x y:Nat×Int):Nat×Int:=List.getD [(x.1+y.1,x.2+y.2),(x.1-y.1,x.2-y.2),(max x.1 y.1,max x.2 y.2),(min x.1 y.1,min x.2 y.2),(x.2.toNat,(x.1:Int)),(0,-x.2)] c ((c-32)*x.1,((c-32:Nat):Int)*x.2)
def aN(f:Ln->Ln->Ln):Al->Al->Al:=pr λg p q=>[(g,f p q)]
def aC(f:Ln->Ln->Ln×Ln):Al->Al->Al:=pr λg p q=>[(g++[ls p q],(f p q).1),(g++[ls q p],(f p q).2)]
def one:Al:=[([],lk 0)]
def al(c:Nat)(x y:Al×Al):Al×Al:=List.getD [(aN la x.1 y.1,aN la x.2 y.2),(aC (λp q=>(ls p q,lk 0)) x.1 y.1,aN ls x.2 y.2),(aC (λp q=>(p,q)) x.1 y.1,aC (λp q=>(p,q)) x.2 y.2),
 (aC (λp q=>(q,p)) x.1 y.1,aC (λp q=>(q,p)) x.2 y.2),(aC (λp q=>(p,lk 0)) x.2 one,x.1),(one,aN (λp a=>lm (-1) p) x.2 one)] c (aN (λp a=>lm (c-32:Nat) p) x.1 one,aN (λp a=>lm (c-32:Nat) p) x.2 one)
def S2(xs:aq Int)(ns:aq Nat)(a:Al×Al)(x:Nat×Int):Prop:=Sa xs ns a.1 x.1/\Sa xs ns a.2 x.2
theorem Sa.zero:Sa xs ns Z.one 0:=.one (qM xs ns 0)
theorem Sa.aN{a b:Al}{x y:Int}{f:Ln->Ln->Ln}(k:∀ p q,ev xs ns p=x->ev xs ns q=y->ev xs ns (f p q)=z)(h:Sa xs ns a x)(g:Sa xs ns b y):Sa xs ns (aN f a b) z:=sJ h g λu v w s e c=>⟨_,List.mem_singleton_self _,s,k v w e c⟩
theorem Sa.aC{a b:Al}{x y:Int}{f:Ln->Ln->Ln×Ln}(k:∀ p q,ev xs ns p=x->ev xs ns q=y->(y<=x->ev xs ns (f p q).1=z)/\(x<=y->ev xs ns (f p q).2=z))(h:Sa xs ns a x)(g:Sa xs ns b y):Sa xs ns (aC f a b) z:=sJ h g λu v w s e c=>(Int.le_total y x).elim
  (λl=>⟨_,.head _,s.sn (rU xs ns v w▸h7 (e▸c▸l)),(k v w e c).1 l⟩) λl=>⟨_,.tail _ (.head _),s.sn (rU xs ns w v▸h7 (e▸c▸l)),(k v w e c).2 l⟩
def den(xs:aq Int)(ns:aq Nat)(t:T):Nat×Int:=t.rec (λi=>(ns.getD i 0,xs.getD i 0)) (λn=>(n,(n:Int))) λc q q x y=>op c x y
def alt(t:T):Al×Al:=t.rec (λi=>([([],0,[],un i)],[([],0,un i,[])])) (λn=>([([],lk n)],[([],lk n)])) λc q q x y=>al c x y
theorem aGz(xs:aq Int)(ns:aq Nat)(t:T):S2 xs ns (alt t) (den xs ns t):=by
 induction t with
 |v i=>
  refine⟨.one ?_,.one ?_⟩
  ·refine(kj _).trans ((kj _).trans ((aGe i _).trans ?_))
   rw[ce,gh];show _=((List.getD ns i 0:Nat):Int);rw[ce];cases ns[i]? <;>rfl
  ·exact(kj _).trans ((b3 (_+ ·) rfl).trans ((jq _).trans (aGe i xs)))
 |k n=>exact⟨.one (qM ..),.one (qM ..)⟩
 |o c x y h g=>exact (by
  have A:∀ {x y:Int} (p q:Ln),ev xs ns p=x->ev xs ns q=y->ev xs ns (la p q)=x+y:=λp q e a=>by rw[aF3,e,a]
  have S:∀ {x y:Int} (p q:Ln),ev xs ns p=x->ev xs ns q=y->ev xs ns (ls p q)=x-y:=λp q e a=>by rw[rU,e,a]
  have M:∀ (k:Int){x y:Int} (p q:Ln),ev xs ns p=x->ev xs ns q=y->ev xs ns (lm k p)=k*x:=λk b b p q e a=>by rw[aF2,e]
  cases c with
  |zero=>exact⟨h.1.aN A g.1,h.2.aN A g.2⟩
  |succ c=>cases c with
   |zero=>exact⟨Sa.aC (f:=λp q=>(ls p q,lk 0)) (λp q e a=>⟨λl=>(S p q e a).trans (Int.ofNat_sub (pF.mp l)).symm,λl=>(qM _ _ _).trans (b3 Nat.cast (Nat.sub_eq_zero_of_le (pF.mp l)).symm)⟩) h.1 g.1,h.2.aN S g.2⟩
   |succ c=>cases c with
    |zero=>exact⟨h.1.aC (λp q e a=>⟨λl=>e.trans (b3 Nat.cast (Nat.max_eq_left (pF.mp l)).symm),λl=>a.trans (b3 Nat.cast (Nat.max_eq_right (pF.mp l)).symm)⟩) g.1,
      h.2.aC (λp q e a=>⟨λl=>e.trans (oh l).symm,λl=>a.trans (ry l).symm⟩) g.2⟩
    |succ c=>cases c with
     |zero=>exact⟨h.1.aC (f:=λp q=>(q,p)) (λp q e a=>⟨λl=>a.trans (b3 Nat.cast (Nat.min_eq_right (pF.mp l)).symm),λl=>e.trans (b3 Nat.cast (Nat.min_eq_left (pF.mp l)).symm)⟩) g.1,
       h.2.aC (f:=λp q=>(q,p)) (λp q e a=>⟨λl=>a.trans (m3 l).symm,λl=>e.trans (su l).symm⟩) g.2⟩
     |succ c=>cases c with
      |zero=>exact⟨h.2.aC (f:=λp q=>(p,lk 0)) (λp q e a=>⟨λl=>e.trans (Int.toNat_of_nonneg l).symm,λl=>(qM _ _ _).trans (b3 Nat.cast (Int.toNat_of_nonpos l).symm)⟩) .zero,h.1⟩
      |succ c=>cases c with
       |zero=>exact⟨.zero,h.2.aN (λp q e a=>(M (-1) p q e a).trans (by rw[Int.neg_mul,Int.one_mul];rfl)) .zero⟩
       |succ c=>exact⟨h.1.aN (M _) .zero,h.2.aN (M _) .zero⟩)
def rL(a b:Al)(l:Ln->Ln->aq (aq Ln)):aq (aq Ln):=pr (λg p q=>(l p q).map (g++ ·)) a b
def dP(xs:aq Int)(ns:aq Nat)(t:T):Prop:=t.rec (λa=>f7) (λa=>f7) λc x y p q=>
 List.getD [(den xs ns x).1<=(den xs ns y).1,(den xs ns x).1=(den xs ns y).1,(den xs ns x).2<=(den xs ns y).2,(den xs ns x).2=(den xs ns y).2,¬p,p/\q,p\/q] c (p->q)
def cr(p q:aq (aq Ln)):aq (aq Ln):=p.flatMap λg=>q.map (g++ ·)
def aEo(p q:Ln):aq (aq Ln):=[[ls q p]]
def aEp(p q:Ln):aq (aq Ln):=[[ls (ls p q) (lk 1)]]
def aF6(p q:Ln):aq (aq Ln):=[[ls q p,ls p q]]
def aF7(p q:Ln):aq (aq Ln):=[[ls (ls p q) (lk 1)],[ls (ls q p) (lk 1)]]
def dn(t:T):aq (aq Ln)×aq (aq Ln):=t.rec (λa=>([],[[]])) (λa=>([],[[]])) λc x y p q=>
 List.getD [(rL (alt x).1 (alt y).1 aEo,rL (alt x).1 (alt y).1 aEp),(rL (alt x).1 (alt y).1 aF6,rL (alt x).1 (alt y).1 aF7),(rL (alt x).2 (alt y).2 aEo,rL (alt x).2 (alt y).2 aEp),
  (rL (alt x).2 (alt y).2 aF6,rL (alt x).2 (alt y).2 aF7),(p.2,p.1),(cr p.1 q.1,p.2++q.2),(p.1++q.1,cr p.2 q.2)] c (p.2++q.1,cr p.1 q.2)
theorem Sd.app{p q:aq (aq Ln)}(h:Sd xs ns p\/Sd xs ns q):Sd xs ns (p++q):=h.elim (fun⟨g,m,s⟩=>⟨g,ka _ m,s⟩) fun⟨g,m,s⟩=>⟨g,jr _ m,s⟩
theorem Sd.cr{p q:aq (aq Ln)}(h:Sd xs ns p)(k:Sd xs ns q):Sd xs ns (cr p q):=h.elim λg h=>k.elim λg' k=>⟨g++g',List.mem_flatMap.mpr ⟨g,h.1,nq.mpr ⟨g',k.1,rfl⟩⟩,h.2.app k.2⟩
theorem y0{a b:Al}{x y:Int}{l:Ln->Ln->aq (aq Ln)}(h:Sa xs ns a x)(g:Sa xs ns b y)(k:∀ p q,ev xs ns p=x->ev xs ns q=y->Sd xs ns (l p q)):Sd xs ns (rL a b l):=sJ h g λu v w s e c=>(k v w e c).elim λg h=>⟨_,nq.mpr ⟨g,h.1,rfl⟩,s.app h.2⟩
theorem aEg{x y:Int}{p q:Ln}(e:ev xs ns p=x)(a:ev xs ns q=y)(h:y<x):Sg xs ns [ls (ls p q) (lk 1)]:=λb m=>by rw[dv.mp m,rU,rU,qM,e,a];exact h7 (Int.le_sub_left_of_add_le h)
theorem aEn{x y:Int}{p q:Ln}(e:ev xs ns p=x)(a:ev xs ns q=y)(h:y<=x):0<=ev xs ns (ls p q):=by rw[rU,e,a];exact h7 h
theorem aEm{a b:Al}{x y:Int}(h:Sa xs ns a x)(g:Sa xs ns b y):(x<=y->Sd xs ns (rL a b aEo))/\(¬x<=y->Sd xs ns (rL a b aEp)):=⟨λl=>y0 h g λp q e c=>⟨_,.head _,λd m=>dv.mp m▸aEn c e l⟩,λl=>y0 h g λp q e c=>⟨_,.head _,aEg e c (not_le.mp l)⟩⟩
theorem aF5{a b:Al}{x y:Int}(h:Sa xs ns a x)(g:Sa xs ns b y):(x=y->Sd xs ns (rL a b aF6))/\(¬x=y->Sd xs ns (rL a b aF7)):=⟨λl=>y0 h g λp q e c=>⟨_,.head _,Sg.sn (λd m=>dv.mp m▸aEn c e (vv l)) (aEn e c (vv l.symm))⟩,
  λl=>y0 h g λp q e c=>(Int.lt_or_gt_of_ne l).elim (λl=>⟨_,.tail _ (.head _),aEg c e l⟩) λl=>⟨_,.head _,aEg e c l⟩⟩
def ct(f:Nat):Nat->Nat×Nat:=f.rec (λs=>(0,s)) λq r s=>cond (beq (s%2) 0) (0,s/2) ((r (s/2)).1+1,(r (s/2)).2)
def sm(g:aq Ln):Nat->Ln×Nat:=g.rec (λs=>(lk 0,s)) λl q r s=>(la (lm ((ct 64 s).1:Nat) l) (r (ct 64 s).2).1,(r (ct 64 s).2).2)
def ng(b:Int->ec)(l:aq Int):ec:=l.rec be λc q r=>cond (b c) r false
def gd(l:Ln):ec:=cond (decide (l.1<0)) (cond (ng (λc=>decide (c=0)) l.2.1) (ng (λc=>decide (c<=0)) l.2.2) false) false
def ck(d:aq (aq Ln)):Nat->ec:=d.rec (λq=>be) λg q r s=>cond (gd (sm g s).1) (r (sm g s).2) false
theorem gO{a b:ec}(h:cond a b false=be):a=be/\b=be:=by
 cases a with
 |true=>exact⟨rfl,h⟩
 |false=>exact bv h Bool.false_ne_true
theorem sm_ok{g:aq Ln}:∀ (s:Nat),Sg xs ns g->0<=ev xs ns (sm g s).1:=by
 induction g with
 |nil=>exact λs b=>vv (qM xs ns 0).symm
 |cons l g a=>
  intro s h
  show 0<=ev xs ns (la (lm _ l) (sm g _).1)
  rw[aF3,aF2]
  exact Int.add_nonneg (Int.mul_nonneg (fz _) (h l (.head _))) (a _ λq m=>h q (.tail _ m))
theorem gd_no{l:Ln}(h:gd l=be): ¬0<=ev xs ns l:=λg=>
 bv (dw g (Int.add_le_add_left (Int.add_nonpos ((by
  intro l
  induction l with
  |nil=>exact λq q=>c4 _
  |cons c l a=>
   intro x e
   cases x with
   |nil=>exact c4 _
   |cons x xs=>exact Int.add_nonpos (vv (cb (gO e).1▸Int.zero_mul x)) (a xs (gO e).2):∀{l:aq Int},∀ (x:aq Int),ng (λc=>decide (c=0)) l=be->dot l x<=0) xs (gO (gO h).2).1)
  ((by
   intro b l k
   induction l with
   |nil=>exact λq q q=>c4 _
   |cons c l a=>
    intro x h e
    cases x with
    |nil=>exact c4 _
    |cons x xs=>exact Int.add_nonpos (k c x (gO e).1 (h x (.head _))) (a xs (λy m=>h y (.tail _ m)) (gO e).2):∀{b:Int->ec}{l:aq Int}(k:∀ c x,b c=be->0<=x->c*x<=0),∀ (x:aq Int),(∀ y∈x,0<=y)->ng b l=be->dot l x<=0) (λc x e h=>Int.mul_nonpos_of_nonpos_of_nonneg (cb e) h) (ns.map Nat.cast) (λy m=>by obtain⟨n,_,e⟩:=nq.mp m;exact e▸fz n) (gO (gO h).2).2)) l.1))
  (not_le.mpr (by rw[jq];exact cb (gO h).1))
def lit(f:Nat):Nat->Nat×Nat:=f.rec (λs=>(0,s)) λq r s=>cond (ble 32 (s%64)) ((s%64-32)+32*(r (s/64)).1,(r (s/64)).2) (s%64,s/64)
def dec(f:Nat):Nat->T×Nat:=f.rec (λs=>(.v 0,s)) λq r s=>
 cond (ble 40 (s%64)) (cond (ble 61 (s%64)) ((lit 30 (s/64)).rec λn s'=>cond (ble (s%64) 61) (.k n,s') ((r s').rec λx s=>(.o (n+32) x x,s))) (.v (s%64-40),s/64))
  ((r (s/64)).rec λx s'=>(r s').rec λy s''=>(.o (s%64) x y,s''))
theorem R(k:Nat)(xs:aq Int)(ns:aq Nat)(h:dP xs ns (dec 99 k).1=P)(c:ck (dn (dec 99 k).1).2 (dec 99 k).2=be):P:=h▸Classical.not_not.mp λz=>(by
 intro xs ns d
 induction d with
 |nil=>exact λ_ ⟨_,m,_⟩=>bv m dz
 |cons g d b=>
  intro s h ⟨a,m,k⟩
  cases m with
  |head=>exact gd_no (gO h).1 (sm_ok s k)
  |tail _ m=>exact b (gO h).2 ⟨a,m,k⟩:∀{xs:aq Int}{ns:aq Nat}{d:aq (aq Ln)},∀ {s:Nat},ck d s=be->¬Sd xs ns d) c (((by
 intro xs ns t
 induction t with
 |v i=>exact⟨False.elim,λq=>⟨_,.head _,.nil⟩⟩
 |k n=>exact⟨False.elim,λq=>⟨_,.head _,.nil⟩⟩
 |o c x y h g=>
  have X:=aGz xs ns x
  have Y:=aGz xs ns y
  cases c with
  |zero=>exact⟨λl=>(aEm X.1 Y.1).1 (pF.mpr l),λl=>(aEm X.1 Y.1).2 λz=>l (pF.mp z)⟩
  |succ c=>cases c with
   |zero=>exact⟨λl=>(aF5 X.1 Y.1).1 (b3 Nat.cast l),λl=>(aF5 X.1 Y.1).2 λz=>l (Int.ofNat.inj z)⟩
   |succ c=>cases c with
    |zero=>exact aEm X.2 Y.2
    |succ c=>cases c with
     |zero=>exact aF5 X.2 Y.2
     |succ c=>cases c with
      |zero=>exact⟨h.2,λl=>h.1 (Classical.not_not.mp l)⟩
      |succ c=>cases c with
       |zero=>exact⟨λl=>(h.1 l.1).cr (g.1 l.2),λl=>.app ((Classical.not_and_iff_not_or_not.mp l).imp h.2 g.2)⟩
       |succ c=>cases c with
        |zero=>exact⟨λl=>.app (l.imp h.1 g.1),λl=>(h.2 λz=>l (.inl z)).cr (g.2 λz=>l (.inr z))⟩
        |succ c=>exact⟨λl=>.app ((Classical.em _).elim (λz=>.inr (g.1 (l z))) λz=>.inl (h.2 z)),λl=>(h.1 (Classical.not_imp.mp l).1).cr (g.2 (Classical.not_imp.mp l).2)⟩:∀{xs:aq Int}{ns:aq Nat}(t:T),(dP xs ns t->Sd xs ns (dn t).1)/\(¬dP xs ns t->Sd xs ns (dn t).2)) _).2 z)
end Z
theorem zzQ(k:Nat)(xs:aq Int)(ns:aq Nat){P:Prop}(e:(Z.dP xs ns (Z.dec 99 k).1,Z.ck (Z.dn (Z.dec 99 k).1).2 (Z.dec 99 k).2)=(P,be)):P:=Z.R k xs ns (b3 Prod.fst e) (b3 Prod.snd e)
theorem zzI(k:Nat)(xs:aq Int){P:Prop}(e:(Z.dP xs [] (Z.dec 99 k).1,Z.ck (Z.dn (Z.dec 99 k).1).2 (Z.dec 99 k).2)=((P),be)):P:=zzQ k xs [] e
theorem zzI0(k:Nat)(xs:aq Int){P:Prop}(e:(Z.dP xs [] (Z.dec 99 k).1,Z.ck (Z.dn (Z.dec 99 k).1).2 (Z.dec 99 k).2)=((P),be)):P:=zzQ k xs [] e
theorem zzI1(k:Nat)(xs:aq Int){A P:Prop}(e:(Z.dP xs [] (Z.dec 99 k).1,Z.ck (Z.dn (Z.dec 99 k).1).2 (Z.dec 99 k).2)=((A->P),be))(h0:A):P:=zzQ k xs [] e h0
theorem zzI2(k:Nat)(xs:aq Int){A B P:Prop}(e:(Z.dP xs [] (Z.dec 99 k).1,Z.ck (Z.dn (Z.dec 99 k).1).2 (Z.dec 99 k).2)=((A->B->P),be))(h0:A)(h1:B):P:=zzQ k xs [] e h0 h1
theorem zzI3(k:Nat)(xs:aq Int){A B D P:Prop}(e:(Z.dP xs [] (Z.dec 99 k).1,Z.ck (Z.dn (Z.dec 99 k).1).2 (Z.dec 99 k).2)=((A->B->D->P),be))(h0:A)(h1:B)(h2:D):P:=zzQ k xs [] e h0 h1 h2
theorem zzI4(k:Nat)(xs:aq Int){A B D E P:Prop}(e:(Z.dP xs [] (Z.dec 99 k).1,Z.ck (Z.dn (Z.dec 99 k).1).2 (Z.dec 99 k).2)=((A->B->D->E->P),be))(h0:A)(h1:B)(h2:D)(h3:E):P:=zzQ k xs [] e h0 h1 h2 h3
theorem zzM(k:Nat)(ns:aq Nat){P:Prop}(e:(Z.dP [] ns (Z.dec 99 k).1,Z.ck (Z.dn (Z.dec 99 k).1).2 (Z.dec 99 k).2)=((P),be)):P:=zzQ k [] ns e
theorem zzM0(k:Nat)(ns:aq Nat){P:Prop}(e:(Z.dP [] ns (Z.dec 99 k).1,Z.ck (Z.dn (Z.dec 99 k).1).2 (Z.dec 99 k).2)=((P),be)):P:=zzQ k [] ns e
theorem zzM1(k:Nat)(ns:aq Nat){A P:Prop}(e:(Z.dP [] ns (Z.dec 99 k).1,Z.ck (Z.dn (Z.dec 99 k).1).2 (Z.dec 99 k).2)=((A->P),be))(h0:A):P:=zzQ k [] ns e h0
theorem zzM2(k:Nat)(ns:aq Nat){A B P:Prop}(e:(Z.dP [] ns (Z.dec 99 k).1,Z.ck (Z.dn (Z.dec 99 k).1).2 (Z.dec 99 k).2)=((A->B->P),be))(h0:A)(h1:B):P:=zzQ k [] ns e h0 h1
theorem zzM3(k:Nat)(ns:aq Nat){A B D P:Prop}(e:(Z.dP [] ns (Z.dec 99 k).1,Z.ck (Z.dn (Z.dec 99 k).1).2 (Z.dec 99 k).2)=((A->B->D->P),be))(h0:A)(h1:B)(h2:D):P:=zzQ k [] ns e h0 h1 h2
theorem zzM4(k:Nat)(ns:aq Nat){A B D E P:Prop}(e:(Z.dP [] ns (Z.dec 99 k).1,Z.ck (Z.dn (Z.dec 99 k).1).2 (Z.dec 99 k).2)=((A->B->D->E->P),be))(h0:A)(h1:B)(h2:D)(h3:E):P:=zzQ k [] ns e h0 h1 h2 h3
theorem zzM5(k:Nat)(ns:aq Nat){A B D E F P:Prop}(e:(Z.dP [] ns (Z.dec 99 k).1,Z.ck (Z.dn (Z.dec 99 k).1).2 (Z.dec 99 k).2)=((A->B->D->E->F->P),be))(h0:A)(h1:B)(h2:D)(h3:E)(h4:F):P:=zzQ k [] ns e h0 h1 h2 h3 h4
theorem zzR(k:Nat)(xs:aq Int)(ns:aq Nat){P:Prop}(e:(Z.dP xs ns (Z.dec 99 k).1,Z.ck (Z.dn (Z.dec 99 k).1).2 (Z.dec 99 k).2)=((P),be)):P:=zzQ k xs ns e
theorem xA{G:Prop}(h:p0/\p1)(k:p0->p1->G):G:=k h.1 h.2
theorem xE{p0:α->Prop}{G:Prop}(h:∃ a0:α,p0 a0)(k:∀ a0,p0 a0->G):G:=h.elim λa0 a=>k a0 a
theorem xAA{G:Prop}(h:p0/\p1/\p2)(k:p0->p1->p2->G):G:=k h.1 h.2.1 h.2.2
theorem xAE{p1:α->Prop}{G:Prop}(h:p0/\∃ a0:α,p1 a0)(k:p0->∀ a0,p1 a0->G):G:=h.2.elim λa0 a=>k h.1 a0 a
theorem xEA{p0 p1:α->Prop}{G:Prop}(h:∃ a0:α,p0 a0/\p1 a0)(k:∀ a0,p0 a0->p1 a0->G):G:=h.elim λa0 a=>k a0 a.1 a.2
theorem xEE{p0:α->β->Prop}{G:Prop}(h:∃ a0:α,∃ a1:β,p0 a0 a1)(k:∀ a0,∀ a1,p0 a0 a1->G):G:=h.elim λa0 a=>a.elim λa1 b=>k a0 a1 b
theorem xAAA{G:Prop}(h:p0/\p1/\p2/\p3)(k:p0->p1->p2->p3->G):G:=k h.1 h.2.1 h.2.2.1 h.2.2.2
theorem xAEA{p1 p2:α->Prop}{G:Prop}(h:p0/\∃ a0:α,p1 a0/\p2 a0)(k:p0->∀ a0,p1 a0->p2 a0->G):G:=h.2.elim λa0 a=>k h.1 a0 a.1 a.2
theorem c6{p0 p1 p2:α->Prop}{G:Prop}(h:∃ a0:α,p0 a0/\p1 a0/\p2 a0)(k:∀ a0,p0 a0->p1 a0->p2 a0->G):G:=h.elim λa0 a=>k a0 a.1 a.2.1 a.2.2
theorem jC{p0 p1:α->β->Prop}{G:Prop}(h:∃ a0:α,∃ a1:β,p0 a0 a1/\p1 a0 a1)(k:∀ a0,∀ a1,p0 a0 a1->p1 a0 a1->G):G:=h.elim λa0 b=>b.elim λa1 a=>k a0 a1 a.1 a.2
theorem uK{a:Sort _}{p0:α->β->a->Prop}{G:Prop}(h:∃ a0:α,∃ a1:β,∃ a2:a,p0 a0 a1 a2)(k:∀ a0,∀ a1,∀ a2,p0 a0 a1 a2->G):G:=h.elim λa0 b=>b.elim λa1 c=>c.elim λa2 d=>k a0 a1 a2 d
theorem xAAAA{G:Prop}(h:p0/\p1/\p2/\p3/\p4)(k:p0->p1->p2->p3->p4->G):G:=k h.1 h.2.1 h.2.2.1 h.2.2.2.1 h.2.2.2.2
theorem q9{p2 p3:α->Prop}{G:Prop}(h:p0/\p1/\∃ a0:α,p2 a0/\p3 a0)(k:p0->p1->∀ a0,p2 a0->p3 a0->G):G:=h.2.2.elim λa0 a=>k h.1 h.2.1 a0 a.1 a.2
theorem xEAAA{p0 p1 p2 p3:α->Prop}{G:Prop}(h:∃ a0:α,p0 a0/\p1 a0/\p2 a0/\p3 a0)(k:∀ a0,p0 a0->p1 a0->p2 a0->p3 a0->G):G:=h.elim λa0 a=>k a0 a.1 a.2.1 a.2.2.1 a.2.2.2
theorem yR{p0 p1:α->Prop}{p2:α->β->Prop}{G:Prop}(h:∃ a0:α,p0 a0/\p1 a0/\∃ a1:β,p2 a0 a1)(k:∀ a0,p0 a0->p1 a0->∀ a1,p2 a0 a1->G):G:=h.elim λa0 a=>a.2.2.elim λa1 b=>k a0 a.1 a.2.1 a1 b
theorem aCd{p0:α->Prop}{p1 p2:α->β->Prop}{G:Prop}(h:∃ a0:α,p0 a0/\∃ a1:β,p1 a0 a1/\p2 a0 a1)(k:∀ a0,p0 a0->∀ a1,p1 a0 a1->p2 a0 a1->G):G:=h.elim λa0 a=>a.2.elim λa1 b=>k a0 a.1 a1 b.1 b.2
theorem bM{p0 p1 p2:α->β->Prop}{G:Prop}(h:∃ a0:α,∃ a1:β,p0 a0 a1/\p1 a0 a1/\p2 a0 a1)(k:∀ a0,∀ a1,p0 a0 a1->p1 a0 a1->p2 a0 a1->G):G:=h.elim λa0 b=>b.elim λa1 a=>k a0 a1 a.1 a.2.1 a.2.2
theorem i6{a:Sort _}{p0 p1:α->β->a->Prop}{G:Prop}(h:∃ a0:α,∃ a1:β,∃ a2:a,p0 a0 a1 a2/\p1 a0 a1 a2)(k:∀ a0,∀ a1,∀ a2,p0 a0 a1 a2->p1 a0 a1 a2->G):G:=h.elim λa0 c=>c.elim λa1 d=>d.elim λa2 b=>k a0 a1 a2 b.1 b.2
theorem xAAAEA{p3 p4:α->Prop}{G:Prop}(h:p0/\p1/\p2/\∃ a0:α,p3 a0/\p4 a0)(k:p0->p1->p2->∀ a0,p3 a0->p4 a0->G):G:=h.2.2.2.elim λa0 a=>k h.1 h.2.1 h.2.2.1 a0 a.1 a.2
theorem wL{p2 p3 p4:α->Prop}{G:Prop}(h:p0/\p1/\∃ a0:α,p2 a0/\p3 a0/\p4 a0)(k:p0->p1->∀ a0,p2 a0->p3 a0->p4 a0->G):G:=h.2.2.elim λa0 a=>k h.1 h.2.1 a0 a.1 a.2.1 a.2.2
theorem kF{p2 p3:α->β->Prop}{G:Prop}(h:p0/\p1/\∃ a0:α,∃ a1:β,p2 a0 a1/\p3 a0 a1)(k:p0->p1->∀ a0,∀ a1,p2 a0 a1->p3 a0 a1->G):G:=h.2.2.elim λa0 b=>b.elim λa1 a=>k h.1 h.2.1 a0 a1 a.1 a.2
theorem aCe{p0 p1 p2 p3 p4:α->Prop}{G:Prop}(h:∃ a0:α,p0 a0/\p1 a0/\p2 a0/\p3 a0/\p4 a0)(k:∀ a0,p0 a0->p1 a0->p2 a0->p3 a0->p4 a0->G):G:=h.elim λa0 a=>k a0 a.1 a.2.1 a.2.2.1 a.2.2.2.1 a.2.2.2.2
theorem iE{a:Sort _}{p0 p1 p2:α->β->a->Prop}{G:Prop}(h:∃ a0:α,∃ a1:β,∃ a2:a,p0 a0 a1 a2/\p1 a0 a1 a2/\p2 a0 a1 a2)(k:∀ a0,∀ a1,∀ a2,p0 a0 a1 a2->p1 a0 a1 a2->p2 a0 a1 a2->G):G:=h.elim λa0 c=>c.elim λa1 d=>d.elim λa2 b=>k a0 a1 a2 b.1 b.2.1 b.2.2
theorem pB{b a:Sort _}{p0 p1:α->β->b->a->Prop}{G:Prop}(h:∃ a0:α,∃ a1:β,∃ a2:b,∃ a3:a,p0 a0 a1 a2 a3/\p1 a0 a1 a2 a3)(k:∀ a0,∀ a1,∀ a2,∀ a3,p0 a0 a1 a2 a3->p1 a0 a1 a2 a3->G):G:=h.elim λa0 d=>d.elim λa1 e=>e.elim λa2 f=>f.elim λa3 c=>k a0 a1 a2 a3 c.1 c.2
theorem aG4{p2:α->Prop}{p3 p4:α->β->Prop}{G:Prop}(h:p0/\p1/\∃ a0:α,p2 a0/\∃ a1:β,p3 a0 a1/\p4 a0 a1)(k:p0->p1->∀ a0,p2 a0->∀ a1,p3 a0 a1->p4 a0 a1->G):G:=h.2.2.elim λa0 a=>a.2.elim λa1 b=>k h.1 h.2.1 a0 a.1 a1 b.1 b.2
theorem sA{a:Sort _}{p2 p3:α->β->a->Prop}{G:Prop}(h:p0/\p1/\∃ a0:α,∃ a1:β,∃ a2:a,p2 a0 a1 a2/\p3 a0 a1 a2)(k:p0->p1->∀ a0,∀ a1,∀ a2,p2 a0 a1 a2->p3 a0 a1 a2->G):G:=h.2.2.elim λa0 c=>c.elim λa1 d=>d.elim λa2 b=>k h.1 h.2.1 a0 a1 a2 b.1 b.2
theorem r8{p0 p1 p2 p3 p4 p5:α->Prop}{G:Prop}(h:∃ a0:α,p0 a0/\p1 a0/\p2 a0/\p3 a0/\p4 a0/\p5 a0)(k:∀ a0,p0 a0->p1 a0->p2 a0->p3 a0->p4 a0->p5 a0->G):G:=h.elim λa0 a=>k a0 a.1 a.2.1 a.2.2.1 a.2.2.2.1 a.2.2.2.2.1 a.2.2.2.2.2
theorem d5{a:Sort _}{p0 p1 p2 p3:α->β->a->Prop}{G:Prop}(h:∃ a0:α,∃ a1:β,∃ a2:a,p0 a0 a1 a2/\p1 a0 a1 a2/\p2 a0 a1 a2/\p3 a0 a1 a2)(k:∀ a0,∀ a1,∀ a2,p0 a0 a1 a2->p1 a0 a1 a2->p2 a0 a1 a2->p3 a0 a1 a2->G):G:=h.elim λa0 c=>c.elim λa1 d=>d.elim λa2 b=>k a0 a1 a2 b.1 b.2.1 b.2.2.1 b.2.2.2
theorem oA{b a:Sort _}{p0 p1 p2:α->β->b->a->Prop}{G:Prop}(h:∃ a0:α,∃ a1:β,∃ a2:b,∃ a3:a,p0 a0 a1 a2 a3/\p1 a0 a1 a2 a3/\p2 a0 a1 a2 a3)(k:∀ a0,∀ a1,∀ a2,∀ a3,p0 a0 a1 a2 a3->p1 a0 a1 a2 a3->p2 a0 a1 a2 a3->G):G:=h.elim λa0 d=>d.elim λa1 e=>e.elim λa2 f=>f.elim λa3 c=>k a0 a1 a2 a3 c.1 c.2.1 c.2.2
theorem pC{p3 p4 p5 p6:α->Prop}{G:Prop}(h:p0/\p1/\p2/\∃ a0:α,p3 a0/\p4 a0/\p5 a0/\p6 a0)(k:p0->p1->p2->∀ a0,p3 a0->p4 a0->p5 a0->p6 a0->G):G:=h.2.2.2.elim λa0 a=>k h.1 h.2.1 h.2.2.1 a0 a.1 a.2.1 a.2.2.1 a.2.2.2
theorem o9{b a:Sort _}{p0 p1 p2 p3:α->β->b->a->Prop}{G:Prop}(h:∃ a0:α,∃ a1:β,∃ a2:b,∃ a3:a,p0 a0 a1 a2 a3/\p1 a0 a1 a2 a3/\p2 a0 a1 a2 a3/\p3 a0 a1 a2 a3)(k:∀ a0,∀ a1,∀ a2,∀ a3,p0 a0 a1 a2 a3->p1 a0 a1 a2 a3->p2 a0 a1 a2 a3->p3 a0 a1 a2 a3->G):G:=h.elim λa0 d=>d.elim λa1 e=>e.elim λa2 f=>f.elim λa3 c=>k a0 a1 a2 a3 c.1 c.2.1 c.2.2.1 c.2.2.2
theorem k9{d b c a:Sort _}{p0 p1:α->β->d->b->c->a->Prop}{G:Prop}(h:∃ a0:α,∃ a1:β,∃ a2:d,∃ a3:b,∃ a4:c,∃ a5:a,p0 a0 a1 a2 a3 a4 a5/\p1 a0 a1 a2 a3 a4 a5)(k:∀ a0,∀ a1,∀ a2,∀ a3,∀ a4,∀ a5,p0 a0 a1 a2 a3 a4 a5->p1 a0 a1 a2 a3 a4 a5->G):G:=h.elim λa0 i=>i.elim λa1 j=>j.elim λa2 l=>l.elim λa3 g=>g.elim λa4 f=>f.elim λa5 e=>k a0 a1 a2 a3 a4 a5 e.1 e.2
theorem iF{c a b:Sort _}{p2 p3 p4:α->β->c->a->b->Prop}{G:Prop}(h:p0/\p1/\∃ a0:α,∃ a1:β,∃ a2:c,∃ a3:a,∃ a4:b,p2 a0 a1 a2 a3 a4/\p3 a0 a1 a2 a3 a4/\p4 a0 a1 a2 a3 a4)(k:p0->p1->∀ a0,∀ a1,∀ a2,∀ a3,∀ a4,p2 a0 a1 a2 a3 a4->p3 a0 a1 a2 a3 a4->p4 a0 a1 a2 a3 a4->G):G:=h.2.2.elim λa0 f=>f.elim λa1 g=>g.elim λa2 i=>i.elim λa3 e=>e.elim λa4 d=>k h.1 h.2.1 a0 a1 a2 a3 a4 d.1 d.2.1 d.2.2
theorem uJ{c a b:Sort _}{p0 p1 p2 p3 p4 p5:α->β->c->a->b->Prop}{G:Prop}(h:∃ a0:α,∃ a1:β,∃ a2:c,∃ a3:a,∃ a4:b,p0 a0 a1 a2 a3 a4/\p1 a0 a1 a2 a3 a4/\p2 a0 a1 a2 a3 a4/\p3 a0 a1 a2 a3 a4/\p4 a0 a1 a2 a3 a4/\p5 a0 a1 a2 a3 a4)(k:∀ a0,∀ a1,∀ a2,∀ a3,∀ a4,p0 a0 a1 a2 a3 a4->p1 a0 a1 a2 a3 a4->p2 a0 a1 a2 a3 a4->p3 a0 a1 a2 a3 a4->p4 a0 a1 a2 a3 a4->p5 a0 a1 a2 a3 a4->G):G:=h.elim λa0 f=>f.elim λa1 g=>g.elim λa2 i=>i.elim λa3 e=>e.elim λa4 d=>k a0 a1 a2 a3 a4 d.1 d.2.1 d.2.2.1 d.2.2.2.1 d.2.2.2.2.1 d.2.2.2.2.2
theorem iD{b a:Sort _}{p0 p1 p2 p3 p4 p5 p6 p7:α->β->b->a->Prop}{G:Prop}(h:∃ a0:α,∃ a1:β,∃ a2:b,∃ a3:a,p0 a0 a1 a2 a3/\p1 a0 a1 a2 a3/\p2 a0 a1 a2 a3/\p3 a0 a1 a2 a3/\p4 a0 a1 a2 a3/\p5 a0 a1 a2 a3/\p6 a0 a1 a2 a3/\p7 a0 a1 a2 a3)(k:∀ a0,∀ a1,∀ a2,∀ a3,p0 a0 a1 a2 a3->p1 a0 a1 a2 a3->p2 a0 a1 a2 a3->p3 a0 a1 a2 a3->p4 a0 a1 a2 a3->p5 a0 a1 a2 a3->p6 a0 a1 a2 a3->p7 a0 a1 a2 a3->G):G:=h.elim λa0 d=>d.elim λa1 e=>e.elim λa2 f=>f.elim λa3 c=>k a0 a1 a2 a3 c.1 c.2.1 c.2.2.1 c.2.2.2.1 c.2.2.2.2.1 c.2.2.2.2.2.1 c.2.2.2.2.2.2.1 c.2.2.2.2.2.2.2
theorem gY{n f g i j e d κ m l:Sort _}{p0:α->β->n->f->g->i->j->e->d->κ->m->l->Prop}{G:Prop}(h:∃ a0:α,∃ a1:β,∃ a2:n,∃ a3:f,∃ a4:g,∃ a5:i,∃ a6:j,∃ a7:e,∃ a8:d,∃ a9:κ,∃ a10:m,∃ a11:l,p0 a0 a1 a2 a3 a4 a5 a6 a7 a8 a9 a10 a11)(k:∀ a0,∀ a1,∀ a2,∀ a3,∀ a4,∀ a5,∀ a6,∀ a7,∀ a8,∀ a9,∀ a10,∀ a11,p0 a0 a1 a2 a3 a4 a5 a6 a7 a8 a9 a10 a11->G):G:=h.elim λa0 o=>o.elim λa1 t=>t.elim λa2 u=>u.elim λa3 r=>r.elim λa4 q=>q.elim λa5 s=>s.elim λa6 p=>p.elim λa7 w=>w.elim λa8 v=>v.elim λa9 a=>a.elim λa10 b=>b.elim λa11 c=>k a0 a1 a2 a3 a4 a5 a6 a7 a8 a9 a10 a11 c
theorem A0:m+(10*n)<=700->m<1000:=zzM 0x57e8f41f6800057cf692bea00007 [m,n] ⋯
theorem A1:m+(40*n)<=8000->m+64<9900:=zzM 0x149d6cf41f4283da000001fa83da41a3ea00007 [m,n] ⋯
theorem A2:m<100->m<=16777216:=zzM 0x150820820f6800393d07da00007 [m] ⋯
theorem A3:m<1000000->m<=16777216:=zzM 0x150820820f6801ec3283d07da00007 [m] ⋯
theorem A4:m+n<1000000->p=m->q=n->p+q<=16777216:=zzM 0x4950820820f6ba80029ac11e8a811dec3283d07da68000007 [m,n,p,q] ⋯
theorem A5:(((0:Int)<=a+((m:Nat):Int))/\(a+((m:Nat):Int)<((m:Nat):Int)))->(a<0)/\((-((m:Nat):Int)<=a)/\((Int.toNat (a+((m:Nat):Int))=Int.toNat (a+((m:Nat):Int)))/\(Int.toNat (a+((m:Nat):Int))<m))):=zzR 0x254904122142a10412aa01f68a28128004000a28a04a00128a28128004045a28a2810508503d07da00085a28101f68a04a00002a28128000f42147 [a] [m] ⋯
theorem A6:(((0:Int)<=a)/\(a<((m:Nat):Int)))->((0:Int)<=a)/\((Int.toNat a=Int.toNat a)/\(Int.toNat a<m)):=zzR 0x4a9208245091420826807da28100028a04a2810116803d085a28101f68002a00f42147 [a] [m] ⋯
theorem A7:m=n-> -((n:Nat):Int)<=a-> -((m:Nat):Int)<=a:=zzR 0xaa8a28a04142a28a29105087a68047 [a] [m,n] ⋯
theorem A10:((-1000000):Int)<a->b<1000000->Int.toNat (b-a)<2000000:=zzI 0x10941f61920f41f68a290440007b0ca0f41f690021e807da1ec3283d140087 [a,b] ⋯
theorem A11:a<1000000->((-1000000):Int)<b->Int.toNat (b-a)<2000000->((((((-9223372036854775808):Int)<=a)/\(a<9223372036854775808))/\((((-9223372036854775808):Int)<=b)/\(b<9223372036854775808)))/\((((-9223372036854775808):Int)<=max (b-a) 0)/\(max (b-a) 0<9223372036854775808)))/\((max (b-a) 0=0)\/((((-9223372036854775808):Int)<=b)/\(b<9223372036854775808))):=zzI 0x10101010140a04422204440a092890a5101010101108888a090242044514485488820820820820820820f41f69002a6822082082082082082083d142140f40f68a41083188820820820820820820f41f40f68a41080080f68a410a822082082082082082083d142148820820820820820820f41f69002a6822082082082082082083d142148820820820820820820f41f68002a2822082082082082082083d14214514507d86483d07da28a41100007a41f687b0ca0f450021dec3283d07da00087 [a,b] ⋯
theorem A13: ¬((1:Int)<0):=zzM 0x1a00f41f41f40084 [] ⋯
theorem A14: ¬(((m:Nat):Int)<0):=zzM 0x6803d07da28100084 [m] ⋯
theorem A15:(0:Int)<1:=zzM 0x107d07d03d002 [] ⋯
theorem A16:m<=n->min (p-q) (m-q)<=n:=zzM 0x20820a1420a2869ae806ba810c0a68007 [m,n,p,q] ⋯
theorem A17:(1:Nat)<=m->¬(((m:Nat):Int)=0):=zzM 0x16803da2810312807d007 [m] ⋯
theorem A18:(((1:Int)<=a)/\((a<=b)/\((b<=((m:Nat):Int))/\(m<1000))))->(0:Int)<=a:=zzR 0x21a00f427e8f41f68000a28129085a68085a01f42147 [a,b] [m] ⋯
theorem A19:(((1:Int)<=((m:Nat):Int))/\((((m:Nat):Int)<=a)/\((a<=((n:Nat):Int))/\(n<1000))))->(0:Int)<=a:=zzR 0x45a00f427e8f41f69000a29128085a28a04085a28101f42147 [a] [m,n] ⋯
theorem A24:(((1:Int)<=a)/\((a<=((m:Nat):Int))/\(m<1000)))->(0:Int)<=a:=zzR 0x11a00f427e8f41f68000a28128085a01f42147 [a] [m] ⋯
theorem A30:m+(10*(n+1))<=700->m+1+(10*n)<=700:=zzM 0x155f3da4af81f68000015f3d07da402bea00007 [m,n] ⋯
theorem A32:m+1<=n->m<=n:=zzM 0x5a6802907da00007 [m,n] ⋯
theorem A33:m=n->n<1000000->m<=16777216:=zzM 0xa50820820f6801ec3283d07da40007a68047 [m,n] ⋯
theorem A34:m+(10*(n+1))<=700->m+0+1+(10*n)<=700:=zzM 0x557cf692be07d03da00000015f3d07da402bea00007 [m,n] ⋯
theorem A35:m+(40*(n+1))<=8000->m+0+3+(40*n)<=8000:=zzM 0x51fa83da41a3e0fd03da00000007ea0f41f69001a3ea00007 [m,n] ⋯
theorem A40:m+2<=n->p+(10*n)<=700->p+(10*(m+2))<=700:=zzM 0xaffd5f3d0bda002bea80015f3da4afaa0001e90bda00007 [m,n,p] ⋯
theorem A41:m+2<=n->p+(40*n)<=8000->p+(40*(m+2))<=8000:=zzM 0x2bfffffffffc7ea0f42f68001a3ea80007ea0f69068faa0001e90bda00007 [m,n,p] ⋯
theorem A45:((m:Nat):Int)<a->¬(a<=((m:Nat):Int)):=zzR 0x5a28a04a0212807da28100087 [a] [m] ⋯
theorem A46:m+1<=n->p+(10*n)<=700->p+(10*m)<=700:=zzM 0x2bff57cf682bea80015f3da4afaa0001e907da00007 [m,n,p] ⋯
theorem A47:m+1<=n->p+(40*n)<=8000->p+1+(40*m)<=8000:=zzM 0x2bfffffffffc7ea0f68068f81f6a000007ea0f69068faa0001e907da00007 [m,n,p] ⋯
theorem A48:m=n->n<64->m<=16777216:=zzM 0xa50820820f6800283d07da40007a68047 [m,n] ⋯
theorem A53:m<n->n<p->m<p:=zzM 0x15a81f68000a81f690001e907da00007 [m,n,p] ⋯
theorem A63:m<n+1->n<=m->m=n:=zzM 0x5269a01a2900707da4007da00007 [m,n] ⋯
theorem A64:m<n-1->n-1<n:=zzM 0x908a2907d07da4100007da4107da00007 [m,n] ⋯
theorem A65:m<n->n-1<=m->m=n-1:=zzM 0x4145121414522107da41a01a01f690401e907da00007 [m,n] ⋯
theorem A66:m+(n+1)<=p->m<p:=zzM 0x16a07da0002a07da40a00007 [m,n,p] ⋯
theorem A67:m+(n+1)<=p->m-1<p:=zzM 0x129a81f41f6804002a07da40a00007 [m,n,p] ⋯
theorem A68:(1:Nat)<=m->m=m-1->f7:=zzM 0x492807da01a011e807d007 [m] ⋯
theorem A69:m<=m+(n+1):=zzM 0x107da40a00a00 [m,n] ⋯
theorem A70:(1:Nat)<=m+1:=zzM 0x41f68001f40 [m] ⋯
theorem A71:m+(n+1)<=p->m+1+n<=p:=zzM 0x16aa41f6800002a07da40a00007 [m,n,p] ⋯
theorem A72:(1:Nat)<=m->¬(m=m-1):=zzM 0x492807da01a0112807d007 [m] ⋯
theorem A73:m<=n+1+p->m<=n+(p+1):=zzM 0x141f6a02902802a07da40028007 [m,n,p] ⋯
theorem A76:(1:Nat)<=m->m-1=m->f7:=zzM 0x8a28a01f680411e807d007 [m] ⋯
theorem A81:m<n->n<1->f7:=zzM 0x5a01f41f690001e907da00007 [m,n] ⋯
theorem A83:m<=1+(n-1)->(1:Nat)<m->(0:Nat)<n:=zzM 0xa46907d03d000a01f41f4000707da4107d028007 [m,n] ⋯
theorem A84:m<=1+(n-1)->(1:Nat)<m->m-1<n:=zzM 0xa0a428a907d07da01000a01f41f4000707da4107d028007 [m,n] ⋯
theorem A85:(1:Nat)<m->(0:Nat)=m-1->f7:=zzM 0x546807da0103d047a01f41f40007 [m] ⋯
theorem A96:(1:Nat)<=m->¬((1:Nat)=m)->n<=2+(m-(1+1))->n<=m:=zzM 0xa4a02a8a29001f41f40a010bd029007a2807d0441e807d007 [m,n] ⋯
theorem A101:m<=n->n<=p->m<=p:=zzM 0x56aa00aa9007a68007 [m,n,p] ⋯
theorem A102:m-n<=0->n<=p->m<=p:=zzM 0x14aaaa802aa401c0f69a01007 [m,n,p] ⋯
theorem A104:m<=n->n-(n-m)=m:=zzM 0x2942292884228a29069041a68007 [m,n] ⋯
theorem A106:m+(n+1)=p->m<p:=zzM 0x26a07da0002a07da40a00047 [m,n,p] ⋯
theorem A109:m+(n+1)=p->m+1+n=p:=zzM 0x526aa41f6800006a07da40a00047 [m,n,p] ⋯
theorem A118:m<n->n=p->m<p:=zzM 0x96a07da0002aa411e907da00007 [m,n,p] ⋯
theorem A119:m<n->¬(m=p)->(¬((p<m)/\(m<=q)))->((p<n)/\(n<=q))->m<p:=zzM 0x24a11242aa07da0002ba40a41f6a000147a2ba00a01f6a0001441e8aa80441e907da00007 [m,n,p,q] ⋯
theorem A123:(1:Nat)<=m->max m 1=m:=zzM 0x52512807da0206807d007 [m] ⋯
theorem A125:m<=n->¬(m<n)->m=n:=zzM 0x149a68068a41f68000107a68007 [m,n] ⋯
theorem A126:a<b->b<a->f7:=zzI 0x168a01f690021e907da00087 [a,b] ⋯
theorem A128:a<=b+1->a<=b-0+1:=zzI 0x507d03da41028081f69028087 [a,b] ⋯
theorem A129:a-(b+1)=a-1-b:=zzI 0x16907da01041f69028043 [a,b] ⋯
theorem A130:a=b->c-1-b+1+a=c:=zzI 0x526aa01f6907da81040003a680c7 [a,b,c] ⋯
theorem A131:a-1-b+1+c=a->d-1-b+1+c=d:=zzI 0x526ba81f6907dac1040003a2a07da41f680410000c7 [a,b,c,d] ⋯
theorem A132:a<b+1->¬(a=b)->a<b:=zzI 0x145a41f68002a29a0310707da4007da00087 [a,b] ⋯
theorem A135:a+b=c+1->a+(b-1-d)=c-d:=zzI 0x526ba81ac1f69041a000c1f6a029a000c7 [a,b,c,d] ⋯
theorem A136:a<b->c+(b-1-a)=d-a->e<=c->e<=d-a:=zzI 0x2968ac1b02aac087a2b06807da4106a0031e907da00087 [a,b,c,d,e] ⋯
theorem A137:a<=b->a+0<=b:=zzI 0x5a40f68002a68087 [a,b] ⋯
theorem A140:((a+b<=c)\/((a+b=c+1)/\(d+b<=e)))->(¬((a+b<=c)\/((a+b=c+1)/\(d+b<=f))))->a+(b-1)=c:=zzI 0x484148284821145145145a81f69068003a2da6b00207da80a6800316aa680021841eca6b00207da80a6800316aa68002187 [a,b,c,d,e,f] ⋯
theorem A145:a<b->a-c+1+c<=b:=zzI 0x169a81f6aa010000a907da00087 [a,b,c] ⋯
theorem A146:(0:Int)<a->a=0->f7:=zzI 0x5a00f680c7a01f40f40087 [a] ⋯
theorem A159:a<=b->a<=b-1+1:=zzI 0x141f41f69040a02a68087 [a,b] ⋯
theorem A162:a+((0:Nat):Int)=b->a=b:=zzI 0x149a680e9a00f44a000c7 [a,b] ⋯
theorem A163:a+((m+1:Nat):Int)=b->a<b:=zzR 0x26907da000a9a01f68004a000c7 [a,b] [m] ⋯
theorem A164:a+((m+1:Nat):Int)=b->a+1+((m:Nat):Int)=b:=zzR 0x5269a28101f680000e9a01f68004a000c7 [a,b] [m] ⋯
theorem A166:a<((m:Nat):Int)->m<1000000->a<1000000:=zzR 0x157b0ca0f41f680027b0ca0f41f680001e8a0407da00087 [a] [m] ⋯
theorem A167:a<=b->b+1+((m:Nat):Int)<=((n:Nat):Int)->a+((m+1:Nat):Int)<=((n:Nat):Int):=zzR 0x568a44a01f68004a000a8a44a28101f69000087a68087 [a,b] [m,n] ⋯
theorem A169:a<b->a<=b-1:=zzI 0x141f690680a907da00087 [a,b] ⋯
theorem A170:a+b<=c->a-1+(b+1)<=c:=zzI 0x16a07da4007da01002aa9a00087 [a,b,c] ⋯
theorem A171:(0:Int)<=a->(0:Int)<=a+1:=zzI 0x507da0003d0a803d087 [a] ⋯
theorem A172:(0:Int)<=a->(0:Int)<a+1:=zzI 0x141f68001f40f400a803d087 [a] ⋯
theorem A175:a-1+b=a+(b-1):=zzI 0x141f6906802907da01003 [a,b] ⋯
theorem A176:a<=b->a<=b:=zzI 0x169a02a68087 [a,b] ⋯
theorem A177:a+b<c->a+(b+1)<=c:=zzI 0x16a07da40a000aa07da68000087 [a,b,c] ⋯
theorem A178:(0:Int)<=a->a<b->(0:Int)<=b-1:=zzI 0x541f69040f42a41f680021e803d087 [a,b] ⋯
theorem A179:a+b<=c->(0:Int)<=b->c<=((m:Nat):Int)->a-1<((m:Nat):Int):=zzR 0x55a28101f41f680400a8a04a821e903d087aa9a00087 [a,b,c] [m] ⋯
theorem A180:a<=b->(0:Int)<=c->(0:Int)<=a->(0:Int)<=b+c:=zzI 0x55aa9000f42a00f421ea03d087a68087 [a,b,c] ⋯
theorem A181:a<=((m:Nat):Int)->b+c<a->b+c<((m:Nat):Int):=zzR 0x568a0407daa90000a807daa9000087a28128087 [a,b,c] [m] ⋯
theorem A183:(0:Int)<a->b<=c->c+a<=d->m<=2*(Int.toNat (c-b))+1+n->p<=2*(Int.toNat (d-(c+a)))+1+m->q=2*(Int.toNat (d-b))+1+n->p+1<=q:=zzR 0x20aa8936c20aa891b0852a24cc214a890eb07da8002907da29ac1102f8002b047a01f68a2a02b0440be000a801e907da29a81102f80028007ae8a80087aa9087a01f40f40087 [a,b,c,d] [m,n,p,q] ⋯
theorem A184:m+n<=1000->p<=n->p<1000000:=zzM 0x157b0ca0f41f6a000a6a0077e8f69a00007 [m,n,p] ⋯
theorem A185:m<=n->(1:Nat)<=p->m=p+q->q<n:=zzM 0x296907dac002ba80a011ea07d007a68007 [m,n,p,q] ⋯
theorem A186:m+n<=1000->n=p+q->m+q<=1000:=zzM 0xa5fa3dae8000aea0290477e8f69a00007 [m,n,p,q] ⋯
theorem A187: ¬(a=0)->(0:Int)<=a->(0:Int)<a:=zzI 0x2a6807d03d002a00f421e803da03107 [a] ⋯
theorem A189:m+n<=1000->p+1<=n->m+1+p<=1000:=zzM 0x55fa3da81f6800002907da800077e8f69a00007 [m,n,p] ⋯
theorem A190:m+(n+1)<=1000->m+n<=1000:=zzM 0x57e8f69a0001fa3d07da40a00007 [m,n] ⋯
theorem A191:m+(n+1)<=1000->m<1000000:=zzM 0x15ec3283d07da0001fa3d07da40a00007 [m,n] ⋯
theorem A192:m+(n+1)<=1000->m+1+n<=1000:=zzM 0x15fa3da41f6800001fa3d07da40a00007 [m,n] ⋯
theorem A193:m+0<=1000->m<999999:=zzM 0x15ec31ffd07da0001fa3d03da00007 [m] ⋯
theorem A194:m+n<=1000->p<=1->q=m+p->q+1<1000000:=zzM 0x957b0ca0f41f41f6b00002aa00ac11c1f6a0077e8f69a00007 [m,n,p,q] ⋯
theorem A198:m+(2*(n+1))<=100000->p<=1->q<=1->m+(p+q)+(2*n)<=100000:=zzM 0x550e1d60f690beaea028000001f6b00707da801c387583d07da400bea00007 [m,n,p,q] ⋯
theorem A201:a<=b->b+c+((m:Nat):Int)<=((n:Nat):Int)->(0:Int)<c->a+((m+1:Nat):Int)<=((n:Nat):Int):=zzR 0x55a2912807da00128002a81f40f40087a29128a04aa9000087a68087 [a,b,c] [m,n] ⋯
theorem A202:0+((m:Nat):Int)<=((n:Nat):Int)->m<=n:=zzM 0x5a68028a44a28100f40087 [m,n] ⋯
theorem A205:m+0<=1000->m<1000000:=zzM 0x15ec3283d07da0001fa3d03da00007 [m] ⋯
theorem A211:(-1)+((m+1:Nat):Int)=((m:Nat):Int):=zzM 0x168a04a01f68004a01f45003 [m] ⋯
theorem A216:a=0->a=((m:Nat):Int)->m=0:=zzR 0x41440f68068a04a031c0f680c7 [a] [m] ⋯
theorem A217:a=((m:Nat):Int)->a=((n:Nat):Int)->m=n:=zzR 0x1452a9a01a291280c7a281280c7 [a] [m,n] ⋯
theorem A218:a=((m:Nat):Int)->n<m->((n:Nat):Int)<a:=zzR 0xaa807da291000a807da40007a281280c7 [a] [m,n] ⋯
theorem A222:m+1=1+(2*n)+p+q->r+q=1->s=1+r->t=n+1->m+s=2*t+p:=zzM 0x13492c49aae0be02da00041f6902e047b01f40b411c1f6bb00047aeaa42f81f4000007da00047 [m,n,p,q,r,s,t] ⋯
theorem A223:m+1=1+1+(2*n)+p+q->r+q=1->s=r->t=n+1->m+s=2*t+p:=zzM 0x13492c49aae0be02da00041f6902e047b2d04707daec0011ebaa90be07d07d00000007da00047 [m,n,p,q,r,s,t] ⋯
theorem A230:(0:Int)<=a->Int.toNat (a+((m:Nat):Int))=Int.toNat a+m:=zzR 0x12a125115108a28a04028a2812800406803d087 [a] [m] ⋯
theorem A231:((m:Nat):Int)=a+b-a->((n:Nat):Int)=c+b-c->m=n:=zzR 0x129469a01aa9a80068a440c7a29a00068a040c7 [a,b,c] [m,n] ⋯
theorem A232:((m:Nat):Int)=a+b-a->n<m->((n:Nat):Int)<b:=zzR 0xa6907da291000a807da40007a29a00068a040c7 [a,b] [m,n] ⋯
theorem A233:(0:Int)<=a->a+b<=((m:Nat):Int)->((n:Nat):Int)<b->Int.toNat a+n<m:=zzR 0x954aa01f69a28100000a41f68a440021e8a04a680021e803d087 [a,b] [m,n] ⋯
theorem A234:a+(min b c)+(b-(min b c))=a+b:=zzI 0x11149525129a00aa90e906aa43a00003 [a,b,c] ⋯
theorem A235:(0:Int)<a->b+b<a->b<=a:=zzI 0x35a290a807da69000087a01f40f40087 [a,b] ⋯
theorem A236:a+a<b->(0:Int)<b-a-a:=zzI 0x5a28a41041f40f400a907da28000087 [a,b] ⋯
theorem Y3:(m+(n+(1:Nat)))<=p->m<p:=zzM 0x16a07da0002a07da40a00007 [m,n,p] ⋯
theorem Y5:m<(10000:Nat)->n=p->(p+(q+(1:Nat)))=m->n<(1000000:Nat):=zzM 0x495ec3283d07da4002807dac0a80047aa9047278c3d07da00007 [m,n,p,q] ⋯
theorem Y10:a=(b-c)->d=((((e-b)-(f-c))+(0:Int))+((g-e)-(h-f)))->(a+d)=(g-h):=zzI 0x5249bee06ba000edbc1b2e04103daad069b0104002b0c7aa90680c7 [a,b,c,d,e,f,g,h] ⋯
theorem Y11:a=b->c=(d-e)->f=((((g-d)-(h-e))+((a-g)-(i-h)))+(0:Int))->(c+f)=(b-i):=zzI 0x149249c2906da800c0f6fc01ba8041b2f06bb8104002d0c7b2b06a0c7a680c7 [a,b,c,d,e,f,g,h,i] ⋯
theorem Y14:a<(a+(1:Int)):=zzI 0x41f68001f68002 [a] ⋯
theorem Y15:a=(b-c)->d=((((e-b)-(f-c))+(0:Int))+((g-e)-(h-f)))->d=(0:Int)->a=(g-h):=zzI 0x4a4a26fb81a0303dac31edbc1b2e04103daad069b0104002b0c7aa90680c7 [a,b,c,d,e,f,g,h] ⋯
theorem Y16:a=b->c=(d-e)->f=((((g-d)-(h-e))+((a-g)-(i-h)))+(0:Int))->f=(0:Int)->c=(b-i):=zzI 0x129251270a41a8303db431c0f6fc01ba8041b2f06bb8104002d0c7b2b06a0c7a680c7 [a,b,c,d,e,f,g,h,i] ⋯
theorem Y19: ¬(a<=b)->b<a:=zzI 0x5a01f69002a29a02107 [a,b] ⋯
theorem Y20: ¬(a<b)->b<=a:=zzI 0x5a290a8a41f68002107 [a,b] ⋯
theorem Y23:a<b->(a+(1:Int))<=b:=zzI 0x16907da000a907da00087 [a,b] ⋯
theorem Y24:a<=b->a<(b+(1:Int)):=zzI 0x141f69001f68002a68087 [a,b] ⋯
theorem Y26:(0:Int)=((a-a)-(b-b)):=zzI 0x5a69068a01040f43 [a,b] ⋯
theorem Y27:(((a-b)-(c-d))+((e-a)-(f-c)))=((e-b)-(f-d)):=zzI 0x16bb41a6c041aad068b0106ba81a68041003 [a,b,c,d,e,f] ⋯
theorem Y28:(((a-b)-(c-d))+(0:Int))=((a-b)-(c-d)):=zzI 0x5aea069a01040f6ba81a68041003 [a,b,c,d] ⋯
theorem Y29:a<b->c<=a->c<b:=zzI 0x56907da800a8a821e907da00087 [a,b,c] ⋯
theorem Y32:a<b->b<c->((c=(a+(1:Int)))/\(d=(e+(1:Int))))->f7:=zzI 0x56807db00ac307da00a83147a81f690021e907da00087 [a,b,c,d,e] ⋯
theorem Y33:a<b->b<c->((d=(e+(1:Int)))/\(c=(a+(1:Int))))->f7:=zzI 0x116807da00a8307db00ac3147a81f690021e907da00087 [a,b,c,d,e] ⋯
theorem Y34:((a=(b+(1:Int)))/\(c=(d+(1:Int))))->(0:Int)=((c-d)-(a-b)):=zzI 0x4a51a6806ba81040f4307dac0a8307da40a03147 [a,b,c,d] ⋯
theorem Y41:a<b->(max c b)<=a->f7:=zzI 0x255a28a6a0821e907da00087 [a,b,c] ⋯
theorem Y44:a<=b->¬(a=b)->a<b:=zzI 0x145a41f68002a29a03107a68087 [a,b] ⋯
theorem Y48:(0:Int)<a->a<=b->((-(1:Int))+(1:Int))<=b:=zzI 0x56907da01f45002a68087a01f40f40087 [a,b] ⋯
theorem Y51:a=(((m:Nat):Int)+b)->c<((0:Int)+((m:Nat):Int))->b<(((0:Int)+a)-c):=zzR 0xaaaa00f40041f69002a28100f4007da80087a68a040280c7 [a,b,c] [m] ⋯
theorem Y52:a=(((m:Nat):Int)+b)->b=((n:Nat):Int)->c<((0:Int)+((m:Nat):Int))->c<((0:Int)+a):=zzR 0x54a803d001f6a002a28100f4007da80087a291290c7a68a040280c7 [a,b,c] [m,n] ⋯
theorem Y53:a=(((m:Nat):Int)+b)->((0:Int)+((m:Nat):Int))<=c->b<(((0:Int)+a)-c)->f7:=zzR 0x29a2aa00f40041f690021eaa28100f40087a68a040280c7 [a,b,c] [m] ⋯
theorem Y54:a<=b->a=(((m:Nat):Int)+c)->c=((n:Nat):Int)->d<(((0:Int)+((m:Nat):Int))+((n:Nat):Int))->d<b:=zzR 0x549a41f6b002a29128a0403d00007dac0087a2912a0c7aa8a040280c7a68087 [a,b,c,d] [m,n] ⋯
theorem Y55:a=(((m:Nat):Int)+b)->b=((n:Nat):Int)->(Int.toNat a)=(m+n):=zzR 0xa920492269a00a28101a291290c7a68a040280c7 [a,b] [m,n] ⋯
theorem Y56:((a<b)\/(a<c))->a=(((m:Nat):Int)+d)->d=((n:Nat):Int)->(((((m:Nat):Int)-(1:Int))+(1:Int))<b)\/(((((m:Nat):Int)-(1:Int))+(1:Int))<c):=zzR 0x492526a07d07d07da281010000a907d07d07da28101000086a2912b0c7ae8a040280c7a81f68002a41f68002187 [a,b,c,d] [m,n] ⋯
theorem Y57:a<=b->a=(((m:Nat):Int)+c)->c=((n:Nat):Int)->((((m:Nat):Int)-(1:Int))+(1:Int))<=b:=zzR 0x526907d07da28101002a2912a0c7aa8a040280c7a68087 [a,b,c] [m,n] ⋯
theorem Y58:a=(((m:Nat):Int)+b)->((0:Int)+(a-b))=((((m:Nat):Int)-(1:Int))+(1:Int)):=zzR 0x14907d07da28101029a0103d003a68a040280c7 [a,b] [m] ⋯
theorem Y59:a<=b->a=(((m:Nat):Int)+c)->c=((n:Nat):Int)->(0:Int)<=b:=zzR 0x149a40f42a2912a0c7aa8a040280c7a68087 [a,b,c] [m,n] ⋯
theorem Y60:(0:Int)<=a->a=(((Int.toNat a):Nat):Int):=zzI 0x12a44a28a041280e803d087 [a] ⋯
theorem Y63:a=((m:Nat):Int)->((0:Int)+((m:Nat):Int))=a:=zzR 0x12aa28a0403d003a281280c7 [a] [m] ⋯
theorem Y64:a=((m:Nat):Int)->b<((0:Int)+((m:Nat):Int))->b<a:=zzR 0x2aa01f69002a28100f4007da40087a281280c7 [a,b] [m] ⋯
theorem Y65:a<=((m:Nat):Int)->a=((n:Nat):Int)->(Int.toNat (((m:Nat):Int)-(0:Int)))=(n+(Int.toNat (((m:Nat):Int)-a))):=zzR 0x129512510912a24442a28a2810112902803da28101101a291280c7a28128087 [a] [m,n] ⋯
theorem Y67:(0:Int)<=a->((-(1:Int))+(1:Int))<=a:=zzI 0x5a01f6807d1400a803d087 [a] ⋯
theorem Y68:a=((m:Nat):Int)->b<((0:Int)+((m:Nat):Int))->b<((0:Int)+a):=zzR 0xaa803d001f69002a28100f4007da40087a281280c7 [a,b] [m] ⋯
theorem Y69:((0:Int)+a)=((m:Nat):Int)->a=((n:Nat):Int)->((m:Nat):Int)=((n:Nat):Int):=zzR 0x514aa29128a040e8a44a031e8a04a00f400c7 [a] [m,n] ⋯
theorem Y70:((0:Int)+a)=((m:Nat):Int)->a=(((Int.toNat a):Nat):Int):=zzR 0x125108a28a041280e8a04a00f400c7 [a] [m] ⋯
theorem Y71:(0:Int)<=a->a<((0:Int)+(((0:Nat):Nat):Int))->f7:=zzI 0x168a00f4403d001f680021e803d087 [a] ⋯
theorem Y73:((m:Nat):Int)=((n:Nat):Int)->((m:Nat):Int)=((((n:Nat):Int)-(1:Int))+(1:Int)):=zzM 0x5241f41f68a44040a28103a29128a040c7 [m,n] ⋯
theorem Y74:((m:Nat):Int)=((n:Nat):Int)->(((n:Nat):Int)-(1:Int))<((m:Nat):Int):=zzM 0x2a8a0407d07da29101002a29128a040c7 [m,n] ⋯
theorem Y75:(((0:Int)-(1:Int))+((m:Nat):Int))=(((m:Nat):Int)-(1:Int)):=zzM 0x507da28101a28101f40f41003 [m] ⋯
theorem Y76:((a-b)+c)=((a-(b+((m:Nat):Int)))+(c+((m:Nat):Int))):=zzR 0x168a04a80a28129028040aa9a01003 [a,b,c] [m] ⋯
theorem Y77:a=((b+b)+(((m+(1:Nat)):Nat):Int))->b=((n:Nat):Int)->c<((d+((n:Nat):Int))+(((m+(1:Nat)):Nat):Int))->((n:Nat):Int)<((d+a)-c):=zzR 0xacaaa2b00107da291000a807da00128a44ac0001f6a0021e8a44a431e807da00129a400280c7 [a,b,c,d] [m,n] ⋯
theorem Y78:(a+((m:Nat):Int))<=b->((m:Nat):Int)<=(b-a):=zzR 0x168a41a28102a68a04a00087 [a,b] [m] ⋯
theorem Y79:a=((b+b)+(((m+(1:Nat)):Nat):Int))->b=((n:Nat):Int)->c<((d+((n:Nat):Int))+(((m+(1:Nat)):Nat):Int))->c<(d+a):=zzR 0xaca8ac007da800a807da00128a44ac0001f6a0021e8a44a431e807da00129a400280c7 [a,b,c,d] [m,n] ⋯
theorem Y80:(a+((m:Nat):Int))<=b->a<=b:=zzR 0x169a02a68a04a00087 [a,b] [m] ⋯
theorem Y81:a=((b+b)+(((m+(1:Nat)):Nat):Int))->b=((n:Nat):Int)->((c+((n:Nat):Int))+(((m+(1:Nat)):Nat):Int))<=d->b<((c+a)-d)->f7:=zzR 0x149a2ba2a00107da40087ae807da00128a44a800021e8a44a431e807da00129a400280c7 [a,b,c,d] [m,n] ⋯
theorem Y82:(a+b)<=c->b=((d+d)+(((m+(1:Nat)):Nat):Int))->d=((n:Nat):Int)->e<(((a+((n:Nat):Int))+(((m+(1:Nat)):Nat):Int))+((n:Nat):Int))->e<c:=zzR 0x2b26a07db000a8a44a01f68004a29128000001f6c0021e8a44ac31e807da0012bac00290c7aa9a00087 [a,b,c,d,e] [m,n] ⋯
theorem Y83:a=((m:Nat):Int)->b<(c+((m:Nat):Int))->a<=(b-c)->f7:=zzR 0x2aa2aa41a021e8a04a8007da40087a281280c7 [a,b,c] [m] ⋯
theorem Y84:(a+b)<=c->b=((d+d)+(((m+(1:Nat)):Nat):Int))->d=((n:Nat):Int)->e<(a+((n:Nat):Int))->e<c:=zzR 0xac9a81f6c002a29128001f6c0021e8a44ac31e807da0012bac00290c7aa9a00087 [a,b,c,d,e] [m,n] ⋯
theorem Y85:a=((b+b)+(((m+(1:Nat)):Nat):Int))->b=((n:Nat):Int)->(Int.toNat a)=(n+((m+(1:Nat))+n)):=zzR 0x2b22c932466907da00029028a04068a44a431e807da00129a400280c7 [a,b] [m,n] ⋯
theorem Y86:(((a+(1:Int))<b)\/((c+(1:Int))<d))->e=((m:Nat):Int)->¬(((b+e)=(a+(1:Int)))/\((d+e)=(c+(1:Int)))):=zzR 0x890a6807da80b2b00307da00b29003144a2812c0c7ac1f41f6a0000a907d07da00002187 [a,b,c,d,e] [m] ⋯
theorem Y87:(a+(1:Int))<=b->c=((m:Nat):Int)->a<(b+c):=zzR 0xa6aa4007da000a8a04a831e907da00087 [a,b,c] [m] ⋯
theorem Y88:a=((b+b)+(((m+(1:Nat)):Nat):Int))->b=((n:Nat):Int)->b<=a:=zzR 0x52a290a8a44a431e807da00129a400280c7 [a,b] [m,n] ⋯
theorem Y89:(((a+b)<c)\/((d+b)<e))->b=((f+f)+(((m+(1:Nat)):Nat):Int))->f=((n:Nat):Int)->((((a+f)+((m:Nat):Int))+(1:Int))<c)\/((((d+f)+((m:Nat):Int))+(1:Int))<e):=zzR 0x124949b01f41f68a04b6b0000000aa07d07da2812da000000021a8a44b431e807da0012db400290c7b01f69ac0002a81f69a00002187 [a,b,c,d,e,f] [m,n] ⋯
theorem Y90:(a+b)<=c->b=((d+d)+(((m+(1:Nat)):Nat):Int))->d=((n:Nat):Int)->(((a+d)+((m:Nat):Int))+(1:Int))<=c:=zzR 0x526a07da2812ba000000a8a44ac31e807da0012bac00290c7aa9a00087 [a,b,c,d] [m,n] ⋯
theorem Y91:a=((b+b)+(((m+(1:Nat)):Nat):Int))->(c+(a-b))=(((c+b)+((m:Nat):Int))+(1:Int)):=zzR 0x5241f68a04a6a000029a01a800e807da00129a400280c7 [a,b,c] [m] ⋯
theorem Y92:(a+b)<=c->(0:Int)<=a->b=((d+d)+(((m+(1:Nat)):Nat):Int))->d=((n:Nat):Int)->(0:Int)<=c:=zzR 0xb25a80f42a2912b0c7a01f68004aeb000a431e803d087aa9a00087 [a,b,c,d] [m,n] ⋯
theorem Y95:a<=(b+b)->b<=(c-d)->b<((d+a)-c)->f7:=zzI 0x15a2aa2b00107da40087aea069087a69028087 [a,b,c,d] ⋯
theorem Y97:(0:Int)<a->(b+a)<=c->(d+(1:Int))<=b->(d+(1:Int))<=c:=zzI 0x156a07dac00a907dac0087aa8a40087a01f40f40087 [a,b,c,d] ⋯
theorem Y99:a=(b+(((m+(1:Nat)):Nat):Int))->b=((n:Nat):Int)->c<((d+((n:Nat):Int))+(((m+(1:Nat)):Nat):Int))->c<(d+a):=zzR 0x54a8ac007da800a807da00128a44ac0001f6a0021e8a44a431e807da001290280c7 [a,b,c,d] [m,n] ⋯
theorem Y100:a=(b+(((m+(1:Nat)):Nat):Int))->b=((n:Nat):Int)->(Int.toNat a)=(n+(m+(1:Nat))):=zzR 0xa920492241f68029028a04068a44a431e807da001290280c7 [a,b] [m,n] ⋯
theorem Y101:a=(b+(((m+(1:Nat)):Nat):Int))->b<=a:=zzR 0xaa290a807da001290280c7 [a,b] [m] ⋯
theorem Y102:(a+b)=((m:Nat):Int)->b=(c+(((n+(1:Nat)):Nat):Int))->((m:Nat):Int)=(((a+c)+((n:Nat):Int))+(1:Int)):=zzR 0x145281f68a44aa8000028a040e807da4012a0290c7a28129a000c7 [a,b,c] [m,n] ⋯
theorem Y103:(Int.toNat (((m:Nat):Int)-a))=(Int.toNat b)->b=(c+(((n+(1:Nat)):Nat):Int))->c=((p:Nat):Int)->((m:Nat):Int)=(((a+c)+((n:Nat):Int))+(1:Int)):=zzR 0x242501248422a2154111210901f68a44aa8000028a040e8a84a831e807da4012a0290c7a29128a28a04044047 [a,b,c] [m,n,p] ⋯
theorem Y104:(a+b)=((m:Nat):Int)->b=(c+(((n+(1:Nat)):Nat):Int))->((a+c)+((n:Nat):Int))<((m:Nat):Int):=zzR 0x1468a0407da2912aa000000a807da4012a0290c7a28129a000c7 [a,b,c] [m,n] ⋯
theorem Y105:(Int.toNat (((m:Nat):Int)-a))=(Int.toNat b)->b=(c+(((n+(1:Nat)):Nat):Int))->c=((p:Nat):Int)->((a+c)+((n:Nat):Int))<((m:Nat):Int):=zzR 0x12112422151228a0407da2912aa000000a8a84a831e807da4012a0290c7a29128a28a04044047 [a,b,c] [m,n,p] ⋯
theorem Y107:a<=b->c<=d->d<(c+(((Int.toNat a):Nat):Int))->b<=(d-c)->f7:=zzI 0x1251a2aac1a421e8a28104a8007dac0087aea087a68087 [a,b,c,d] ⋯
theorem Y108:(0:Int)<a->(b+(1:Int))<=c->(Int.toNat (((m:Nat):Int)-c))=(Int.toNat a)->¬((((m:Nat):Int)=(b+(1:Int)))/\(((n:Nat):Int)=(d+(1:Int)))):=zzR 0x44104044285a01f6b028a440c1f69028a040c5128a04a2aa281011011ea07da40087a01f40f40087 [a,b,c,d] [m,n] ⋯
theorem Y109:(0:Int)<a->(b+a)=((m:Nat):Int)->(c+(1:Int))<=b->c<((m:Nat):Int):=zzR 0x2968a0407da800a907da80087a28128a400c7a01f40f40087 [a,b,c] [m] ⋯
theorem Y110:(0:Int)<a->(b+(1:Int))<=c->(Int.toNat (((m:Nat):Int)-c))=(Int.toNat a)->b<((m:Nat):Int):=zzR 0x890422a168a0407da400a8a04a2aa281011011ea07da40087a01f40f40087 [a,b,c] [m] ⋯
theorem Y111:(a+b)=((m:Nat):Int)->(Int.toNat (((m:Nat):Int)-a))=(Int.toNat b):=zzR 0x10412542452428a8a44a28a28101101a28129a000c7 [a,b] [m] ⋯
theorem Y112:(((a+(1:Int))<((m:Nat):Int))\/((b+(1:Int))<((n:Nat):Int)))->¬((((m:Nat):Int)=(a+(1:Int)))/\(((n:Nat):Int)=(b+(1:Int)))):=zzR 0x2216807da40a2910307da00a28103144a29101f41f690000a8a0407d07da00002187 [a,b] [m,n] ⋯
theorem Y113:(a+(1:Int))<=((m:Nat):Int)->a<((m:Nat):Int):=zzR 0x168a0407da000a8a0407da00087 [a] [m] ⋯
theorem Y114:a=((b+c)+((m:Nat):Int))->a<=d->(b+c)<=d:=zzR 0xaabaa9002ae8087a2812aa400280c7 [a,b,c,d] [m] ⋯
theorem Y115:(0:Int)<a->b=((c+a)+((m:Nat):Int))->((c+(((Int.toNat a):Nat):Int))+((m:Nat):Int))=b:=zzR 0x89144929a28128a28104a80003a28128a800290c7a01f40f40087 [a,b,c] [m] ⋯
theorem Y116:(0:Int)<a->b=((c+a)+((m:Nat):Int))->d<((c+(((Int.toNat a):Nat):Int))+((m:Nat):Int))->d<b:=zzR 0x8a92907dac00a8a04a28a0412a00007dac0087a28128a800290c7a01f40f40087 [a,b,c,d] [m] ⋯
theorem Y118:(0:Int)<a->b<=((m:Nat):Int)->b=((c+a)+((n:Nat):Int))->(Int.toNat (((m:Nat):Int)-c))=((Int.toNat a)+(n+(Int.toNat (((m:Nat):Int)-b)))):=zzR 0x1044110441452405142051044110441424a11084128a68a04044a40a28100a2aa28101101a29128a800290c7a28129087a01f40f40087 [a,b,c] [m,n] ⋯
theorem Y120:a<=b->b<=((m:Nat):Int)->a<=((m:Nat):Int):=zzR 0x568a04a02a28129087a68087 [a,b] [m] ⋯
theorem Y121:(0:Int)<a->(b+a)<=((m:Nat):Int)->b<=((m:Nat):Int):=zzR 0x568a04a42a28128a40087a01f40f40087 [a,b] [m] ⋯
theorem Y124:((a+(1:Int))-(1:Int))=a:=zzI 0x16807d07da00043 [a] ⋯
theorem Y125:a<=b->¬(b<a):=zzI 0x5a2807da40084a68087 [a,b] ⋯
theorem Y127:a<((b+(1:Int))+((m:Nat):Int))->a<(b+(((m+(1:Nat)):Nat):Int)):=zzR 0x16807da00129001f68002a28101f6900007da00087 [a,b] [m] ⋯
theorem Y128:(a+(1:Int))<=b->a<=b:=zzI 0x5a680a907da00087 [a,b] ⋯
theorem Y129:a<(a+(((m+(1:Nat)):Nat):Int)):=zzR 0x6807da00128001f68002 [a] [m] ⋯
theorem Y130:(a+(((m+(1:Nat)):Nat):Int))=((a+(1:Int))+((m:Nat):Int)):=zzR 0x168a0407da0002807da00128003 [a] [m] ⋯
theorem Y134:(a+((m:Nat):Int))=((a-(1:Int))+(((m+(1:Nat)):Nat):Int)):=zzR 0x16807da00101f68040a28128003 [a] [m] ⋯
theorem Y135:((a-(1:Int))+(((0:Nat):Nat):Int))=(a-(1:Int)):=zzI 0x507da01a00f4407da01003 [a] ⋯
theorem Y136:a=((a-(1:Int))+(1:Int)):=zzI 0x141f41f68040a03 [a] ⋯
theorem Y137:(a-(1:Int))<a:=zzI 0x6807d07da01002 [a] ⋯
theorem Y138:(((a-(b+(1:Int)))-c)+(d+(1:Int)))=((a-b)-(c-d)):=zzI 0x16ba81a6804107dac0a81f69028041003 [a,b,c,d] ⋯
theorem Y139:a=(-(1:Int))->b=(-(1:Int))->b<c->a<c:=zzI 0x546a07da000aa07da40087a01f45a431e807d1680c7 [a,b,c] ⋯
theorem Y140:a=(-(1:Int))->b=(-(1:Int))->a<c->b<c:=zzI 0x52aa07da400aa07da00087a01f45a431e807d1680c7 [a,b,c] ⋯
theorem Y142:((a<=b)/\(c<=d))->b<e->e=a->f7:=zzI 0x29a28b031ec07da40087aea0a9a02147 [a,b,c,d,e] ⋯
theorem Y149:a=b->a<c->b<c:=zzI 0xaaa07da400aa07da00087a680c7 [a,b,c] ⋯
theorem Y153:a=b->((c<=d)/\(e<=a))->b<e->f7:=zzI 0x51a2c07da40087a2c0aba82147a680c7 [a,b,c,d,e] ⋯
theorem Y154:a=b->((c<=b)/\(d<=e))->a<c->f7:=zzI 0x4aa2a07da00087b2b0a9a82147a680c7 [a,b,c,d,e] ⋯
theorem Y155:(m+n)<=(0:Nat)->n=(0:Nat):=zzM 0x940f69040f69a00007 [m,n] ⋯
theorem Y156:(m+n)<=(0:Nat)->m=(0:Nat):=zzM 0x940f68040f69a00007 [m,n] ⋯
theorem Y157:a=b->a=c->b=c:=zzI 0x1452aaa43aa80c7a680c7 [a,b,c] ⋯
theorem Y159:a<b->¬(b=a):=zzI 0x5a28a4312907da00087 [a,b] ⋯
theorem Y161:(a-b)=(1:Int)->a=(b+(1:Int)):=zzI 0x5241f690280c1f69a010c7 [a,b] ⋯
theorem Y163:(((0:Int)<=a)/\(a<((m:Nat):Int)))->a<((0:Int)+((m:Nat):Int)):=zzR 0x2a8a0403d001f68002a28101f68002a00f42147 [a] [m] ⋯
theorem Y164:(a+(((m+(1:Nat)):Nat):Int))<=b->((a+(1:Int))+((m:Nat):Int))<=b:=zzR 0x169a28101f680000a9a01f68004a00087 [a,b] [m] ⋯
theorem Y165:(a+(((m+(1:Nat)):Nat):Int))<=b->¬(a=b):=zzR 0x9a29a03129a01f68004a00087 [a,b] [m] ⋯
theorem Y166:a<(b+(((m+(1:Nat)):Nat):Int))->a<((b+(1:Int))+((m:Nat):Int)):=zzR 0x168a0407da40001f68002a01f68004a4007da00087 [a,b] [m] ⋯
theorem Y167:a<=b->¬(a=b)->(a+(1:Int))<=b:=zzI 0x145a41f68002a29a03107a68087 [a,b] ⋯
theorem Y169:a<b->a<(b+(1:Int)):=zzI 0x507da4007da000a907da00087 [a,b] ⋯
theorem Y170:a<=b->b<(a+(((0:Nat):Nat):Int))->f7:=zzI 0x168a00f44a0007da40087a68087 [a,b] ⋯
theorem Y178:(((0:Int)<=a)/\((a<=b)/\((b<=((m:Nat):Int))/\(((0:Int)<=c)/\((c<=d)/\(d<=((n:Nat):Int)))))))->a=e->b<e->f7:=zzR 0x502a2c07da40087b280c7a2912b0aba8216a03d085a28129085a68085a00f42147 [a,b,c,d,e] [m,n] ⋯
theorem Y179:m<(1000:Nat)->(((0:Int)<=a)/\((a<=b)/\((b<=((m:Nat):Int))/\(((0:Int)<=c)/\((c<=d)/\(d<=((n:Nat):Int)))))))->((0:Int)<=b)/\(b<(1000:Int)):=zzR 0x108a0a7e8f41f69002a40f42168a44ac2aea085a80f42168a04a42169a0216803d0851dfa3d07da00007 [a,b,c,d] [m,n] ⋯
theorem Y180:(((0:Int)<=a)/\((a<=b)/\((b<=((m:Nat):Int))/\(((0:Int)<=c)/\((c<=d)/\(d<=((n:Nat):Int)))))))->c=e->d<e->f7:=zzR 0x510a2c07dac0087b2a0c7a2912b0aba8216a03d085a28129085a68085a00f42147 [a,b,c,d,e] [m,n] ⋯
theorem Y181:m<(1000:Nat)->(((0:Int)<=a)/\((a<=b)/\((b<=((n:Nat):Int))/\(((0:Int)<=c)/\((c<=d)/\(d<=((m:Nat):Int)))))))->((0:Int)<=d)/\(d<(1000:Int)):=zzR 0x140a507e8f41f6b002ac0f42168a04ac2aea085a80f42168a44a42169a0216803d0851dfa3d07da00007 [a,b,c,d] [m,n] ⋯
theorem Y183:((3:Int)*((m:Nat):Int))<=((a-b)+(c-d))->e<b->f<d->¬((b=(e+(1:Int)))/\(d=(f+(1:Int))))->((3:Int)*(((m+(1:Nat)):Nat):Int))<=((a-e)+(c-f)):=zzR 0x28a524a9b6a06ca0102807da00103f82a01f6d02b0c1f6c0290c5107ac1f6d0021e907db00087aea069a01028a040fe087 [a,b,c,d,e,f] [m] ⋯
theorem Y184:((3:Int)*((m:Nat):Int))<=((a-b)+(c-d))->e<b->f<d->((3:Int)*((m:Nat):Int))<=((a-e)+(c-f)):=zzR 0x156da81b28040a28103f82ac1f6d0021e907db00087aea069a01028a040fe087 [a,b,c,d,e,f] [m] ⋯
theorem Y187:((((-(1:Int))+(1:Int))<=a)/\((a<=b)/\((b<=((m:Nat):Int))/\((((-(1:Int))+(1:Int))<=c)/\((c<=d)/\(d<=((n:Nat):Int)))))))->((0:Int)<=a)/\((a<=b)/\((b<=((m:Nat):Int))/\(((0:Int)<=c)/\((c<=d)/\(d<=((n:Nat):Int)))))):=zzR 0x502411084412068a44ac2aea085a80f42168a04a42169a0216803d085a2912b0aba8216a07da01f45002168a04a42169a0216807da01f45002147 [a,b,c,d] [m,n] ⋯
theorem Y188:a<b->((m:Nat):Int)<=(c-b)->(((m+(1:Nat)):Nat):Int)<=(c-a):=zzR 0x568a81a01f680040a9a81a281021e907da00087 [a,b,c] [m] ⋯
theorem Y189:(((a+(1:Int))<=b)/\((b<=c)/\((c<=d)/\(((e+(1:Int))<=f)/\((f<=g)/\(g<=h))))))->(a<b)/\(e<f):=zzI 0x44206d07db000a907da00085bee0aeb4216d07db00085aea085aa9085a41f68002147 [a,b,c,d,e,f,g,h] ⋯
theorem Y190:a<b->c<d->(((b+(1:Int))<=e)/\((e<=f)/\((f<=g)/\(((d+(1:Int))<=h)/\((h<=i)/\(i<=j))))))->((a+(1:Int))<=e)/\((e<=f)/\((f<=g)/\(((c+(1:Int))<=h)/\((h<=i)/\(i<=j))))):=zzI 0x1402404424208210271c02c2f085bc1f6a00216eb4216db0216c07da00085c700b0bc216f07dac0085bad085b6c085b01f69002147ac1f6a0021e907da00087 [a,b,c,d,e,f,g,h,i,j] ⋯
theorem Y191:a<b->c<d->((b<=e)/\(d<=f))->((a+(1:Int))<=(a+(1:Int)))/\(((a+(1:Int))<=b)/\((b<=e)/\(((c+(1:Int))<=(c+(1:Int)))/\(((c+(1:Int))<=d)/\(d<=f))))):=zzI 0x14224122142dac2ac1f6a002141f6a001f6a00216ca4216907da0008507da0007da00085b6b0aca42147ac1f6a0021e907da00087 [a,b,c,d,e,f] ⋯
theorem Y192:a<b->((m:Nat):Int)<=(c-b)->((m:Nat):Int)<=(c-a):=zzR 0x15a2a068a040a9a81a281021e907da00087 [a,b,c] [m] ⋯
theorem Y193:a<b->((c<=d)/\(b<=e))->a<=e:=zzI 0x29b280aca42aea0851e907da00087 [a,b,c,d,e] ⋯
theorem Y194:((m:Nat):Int)<=(a-b)->b<=a:=zzR 0x168a42a68068a04087 [a,b] [m] ⋯
theorem Y195:(0:Int)<=(a-a):=zzI 0x1a28040f42 [a] ⋯
theorem Y198:(-(1000000:Int))<((m:Nat):Int):=zzM 0x1a28101f687b0ca0f45002 [m] ⋯
theorem Y205:(m+(n+(1:Nat)))=p->m<p:=zzM 0x26a07da0002a07da40a00047 [m,n,p] ⋯
theorem Y206:(m+(0:Nat))=n->¬(m<n):=zzM 0x2a8a41f6800012903da00047 [m,n] ⋯
theorem Y207:((a+b)+c)=(a+(b+c)):=zzI 0x16aa40a00aa9a00003 [a,b,c] ⋯
theorem Y209:(m+(1:Nat))=n->m<n:=zzM 0x26907da0002907da00047 [m,n] ⋯
theorem Y210:m<n->((m:Nat):Int)<((n:Nat):Int):=zzM 0x168a4407da281000a907da00007 [m,n] ⋯
theorem Y213:m<(100000:Nat)->m<(1000000:Nat):=zzM 0x15ec3283d07da0000387583d07da00007 [m] ⋯
theorem Y219:(a+b)=((m:Nat):Int)->((n:Nat):Int)=(((m:Nat):Int)-a)->c<=(c+b):=zzR 0x12a9a80a82a28a04068a440c7a28129a000c7 [a,b,c] [m,n] ⋯
theorem Y220:(a+b)=((m:Nat):Int)->(a+b)<=((m:Nat):Int):=zzR 0x268a04a68002a28129a000c7 [a,b] [m] ⋯
theorem Y221:m<(1000:Nat)->(a+b)=((n:Nat):Int)->(c+b)=((m:Nat):Int)->((p:Nat):Int)=(c-(0:Int))->((q:Nat):Int)=(((n:Nat):Int)-a)->(p+q)<(1000000:Nat):=zzR 0x49297b0ca0f41f6ba80000a28a44068ac40c703da81a2a1031e8a04a6a0031e8a44a680031dfa3d07da00007 [a,b,c] [m,n,p,q] ⋯
theorem Y222:(0:Int)<=a->(b+a)=((m:Nat):Int)->b<=((m:Nat):Int):=zzR 0x25a281290a8a04a290031e803d087 [a,b] [m] ⋯
theorem Y223:m<(1000:Nat)->m<(1000000:Nat):=zzM 0x15ec3283d07da0001fa3d07da00007 [m] ⋯
theorem Y224:(0:Int)<=a->(0:Int)<=a:=zzI 0x16803d0a803d087 [a] ⋯
theorem Y225:((m:Nat):Int)=(a-(0:Int))->((n:Nat):Int)=((b+c)-b)->(0:Int)<=(a+c):=zzR 0x126aa0003d0a9aa9001a291031c0f68068a040c7 [a,b,c] [m,n] ⋯
theorem Y226:(0:Int)<=a->((m:Nat):Int)=((a+b)-a)->(0:Int)<=(a+b):=zzR 0x969a0003d0a8a68001a281031e803d087 [a,b] [m] ⋯
theorem Y227:((m:Nat):Int)=((a+b)-a)->c<=(c+b):=zzR 0x269a80a82a29a00068a040c7 [a,b,c] [m] ⋯
theorem Y228:(((a+b)<=c)/\((d+b)<=e))->((c<=((m:Nat):Int))/\(e<=((n:Nat):Int)))->(d+b)<=((n:Nat):Int):=zzR 0x14a8a44a6b002a2912c0a8a04a82147b29ac00aaa68002147 [a,b,c,d,e] [m,n] ⋯
theorem Y229:m<(1000:Nat)->(((a+b)<=c)/\((d+b)<=e))->((c<=((n:Nat):Int))/\(e<=((m:Nat):Int)))->((p:Nat):Int)=(d-(0:Int))->((q:Nat):Int)=((a+b)-a)->(p+q)<(1000000:Nat):=zzR 0x49497b0ca0f41f6ba80000a29a00068ac40c703dac1a2a1031e8a04b02a2912a0851eca6b002aa9a000851dfa3d07da00007 [a,b,c,d,e] [m,n,p,q] ⋯
theorem Y230:(0:Int)<=a->b<=(b+a):=zzI 0x5a290290a803d087 [a,b] ⋯
theorem Y231:(0:Int)<=a->(((b+a)<=c)/\((d+a)<=e))->((c<=((m:Nat):Int))/\(e<=((n:Nat):Int)))->d<=((n:Nat):Int):=zzR 0x149a2912b0a8a44b02a2812a0851eca2b002aa8a400851e803d087 [a,b,c,d,e] [m,n] ⋯
theorem Y232:(((a+b)<=c)/\((d+b)<=e))->((c<=((m:Nat):Int))/\(e<=((n:Nat):Int)))->(a+b)<=((m:Nat):Int):=zzR 0x1268a04a68002a2912c0a8a04a82147b29ac00aaa68002147 [a,b,c,d,e] [m,n] ⋯
theorem Y233:m<(1000:Nat)->m<(100000:Nat):=zzM 0x14387583d07da0001fa3d07da00007 [m] ⋯
theorem Y234:((m:Nat):Int)=(a-(0:Int))->((n:Nat):Int)=(b-a)->(0:Int)<=b:=zzR 0x126903d0a8a41a291031c0f68068a040c7 [a,b] [m,n] ⋯
theorem Y236:m<(1000:Nat)->a<=((m:Nat):Int)->((b<=c)/\(d<=a))->((n:Nat):Int)=(e-(0:Int))->((p:Nat):Int)=(d-e)->(n+p)<(1000000:Nat):=zzR 0x24a57b0ca0f41f6aa40000b2b068a840c703db01a291031e8ac2aa90851e8a04a021dfa3d07da00007 [a,b,c,d,e] [m,n,p] ⋯
theorem Y237:a<=((m:Nat):Int)->((b<=c)/\(d<=a))->d<=((m:Nat):Int):=zzR 0xa68a04ac2a2b0aaa42147a28128087 [a,b,c,d] [m] ⋯
theorem Y238:a<=((m:Nat):Int)->b<=c->((d<=e)/\(c<=a))->b<=((m:Nat):Int):=zzR 0x2968a04a42a2a0acac2147aa9087a28128087 [a,b,c,d,e] [m] ⋯
theorem Y239:a<=((m:Nat):Int)->(((b+c)<=d)/\((e+c)<=a))->(e+c)<=((m:Nat):Int):=zzR 0xa68a04aac002a2ab000abaa9002147a28128087 [a,b,c,d,e] [m] ⋯
theorem Y240:a<=((m:Nat):Int)->(((b+c)<=a)/\((d+c)<=e))->(b+c)<=((m:Nat):Int):=zzR 0x968a04aa9002b2aac00a8aa9002147a28128087 [a,b,c,d,e] [m] ⋯
theorem Y241:m<(1000:Nat)->a<=((m:Nat):Int)->(((b+c)<=d)/\((e+c)<=a))->((n:Nat):Int)=(e-(0:Int))->((p:Nat):Int)=((b+c)-b)->(n+p)<(1000000:Nat):=zzR 0x24a57b0ca0f41f6aa40000a6aa40068a840c703db01a291031e8aac002aeaa400851e8a04a021dfa3d07da00007 [a,b,c,d,e] [m,n,p] ⋯
theorem Y242:a<=((m:Nat):Int)->(0:Int)<=b->(((c+b)<=d)/\((e+b)<=a))->e<=((m:Nat):Int):=zzR 0xa5a2812c0a8a6c002ae9a800851e903d087a28128087 [a,b,c,d,e] [m] ⋯
theorem Y243:m<(100000:Nat)->n<=m->n<(1000000:Nat):=zzM 0x55ec3283d07da40028a401c387583d07da00007 [m,n] ⋯
theorem Y250:m<(1:Nat)->m=(0:Nat):=zzM 0x2503da0107d07da00007 [m] ⋯
theorem Y252:m=(24:Nat)->n<=m->n<=(24:Nat):=zzM 0xa58f69028a401d8f68047 [m,n] ⋯
theorem Y253:m=(24:Nat)->n<=m->n<(1000000:Nat):=zzM 0xa5ec3283d07da40028a401d8f68047 [m,n] ⋯
theorem Y254:(m+(1:Nat))=(n+(1:Nat))->(p+(0:Nat))<=(q+(8:Nat))->(m+(1:Nat))<=r->q<=((24:Nat)+((8:Nat)*n))->p<=((24:Nat)+((8:Nat)*r)):=zzM 0xaff5feb08f98f40a80a48f98f40ac01ec07da0000723dac003da8000707da4007da00047 [m,n,p,q,r] ⋯
theorem Y255:(m-(n+(1:Nat)))<(1:Nat)->(m-(n+(1:Nat)))=(0:Nat):=zzM 0x4214450845203d07da40a01041f41f41f69028040007 [m,n] ⋯
theorem Y257:(((m:Nat):Int)+(1:Int))=(((m+(1:Nat)):Nat):Int):=zzM 0x16807da00101f68a04003 [m] ⋯
theorem Y259:m<=(8:Nat)->(n+m)<=(n+(8:Nat)):=zzM 0x148f69028a40008f68007 [m,n] ⋯
theorem Y262:((m:Nat):Int)<(3:Int)->m<(3:Nat):=zzM 0x143f41f680000fd07da28100087 [m] ⋯
theorem Y265:(m+(n+(1:Nat)))<=p->a<(((m:Nat):Int)+(1:Int))->q<=(1:Nat)->(0:Int)<=b->r<=(m-(Int.toNat (a+b)))->s<=(Int.toNat a)->(((s+q)+r)+n)<=p:=zzR 0x1484a90aa9095254a909521552495229aa9b2bb40000028a04b401e8a68004a01b001e903d08707dac01c1f68a04001f680021ea07da40a00007 [a,b] [m,n,p,q,r,s] ⋯
theorem Y266:m<(1000:Nat)->(n+(p+(1:Nat)))<=m->a<(((n:Nat):Int)+(1:Int))->q<=(1:Nat)->r<=(n-(Int.toNat (a+b)))->s<=(Int.toNat a)->((s+q)+r)<(1000000:Nat):=zzR 0x2910a528a44aa456d488522aa92954956dec3283d07db2bb40000028a04b401e8a68004a41b001c1f6b00707da2910007da00087a01f6a0290001dfa3d07da00007 [a,b] [m,n,p,q,r,s] ⋯
theorem Y267:(min (Int.toNat a) m)<=(Int.toNat a):=zzR 0x10a24a9442a4a8a04a28a040c0 [a] [m] ⋯
theorem Y268:(0:Int)<=a->(0:Int)<=b->(0:Int)<=(a+b):=zzI 0x15a68000f42a40f421e803d087 [a,b] ⋯
theorem Y269:m<(1000:Nat)->(n+(p+(1:Nat)))<=m->n<(1000000:Nat):=zzM 0x157b0ca0f41f69000a01f6a0290001dfa3d07da00007 [m,n,p] ⋯
theorem Y270:m<(1000:Nat)->(n+(p+(1:Nat)))<=m->q<=(1:Nat)->((min (Int.toNat a) n)+q)<(1000000:Nat):=zzR 0x4452295455ec3283d07dae9a28103000001f6b007a01f6a0290001dfa3d07da00007 [a] [m,n,p,q] ⋯
theorem Y271:a<(((m:Nat):Int)+(1:Int))->a<=((m:Nat):Int):=zzR 0x168a04a0207da2810007da00087 [a] [m] ⋯
theorem Y272:(0:Int)<(((m:Nat):Int)+(1:Int)):=zzM 0x107da2810007d03d002 [m] ⋯
theorem Y279:m<(64:Nat)->n<(64:Nat)->((p:Nat):Int)<=((((m:Nat):Int)-(0:Int))+(((n:Nat):Int)-(0:Int)))->((3:Nat)*q)<=((m+n)+(2:Nat))->(r+s)=(((2:Nat)*t)+q)->t<=p->u<=r->u<(100000:Nat):=zzM 0x3bbf3afdfdfc387583d07dbc002cbc01eab801ebb82f80b6c0011c2f69a0002b0fe00703da2910103da28101028a840870a0f41f690001c283d07da00007 [m,n,p,q,r,s,t,u] ⋯
theorem Y280:m<(64:Nat)->n<(64:Nat)->((3:Nat)*p)<=((m+n)+(2:Nat))->p<(10000:Nat):=zzM 0x1d5278c3d07da80002f69a0002a0fe0070a0f41f690001c283d07da00007 [m,n,p] ⋯
theorem Y281:m<(64:Nat)->n<(64:Nat)->((p:Nat):Int)<=((((m:Nat):Int)-(0:Int))+(((n:Nat):Int)-(0:Int)))->p<=(200:Nat):=zzM 0x1546a3da8003da2910103da28101028a840870a0f41f690001c283d07da00007 [m,n,p] ⋯
theorem Y282:m<(64:Nat)->m<(200:Nat):=zzM 0x146a3d07da0000283d07da00007 [m] ⋯
theorem Y283:(m+n)=(((2:Nat)*p)+q)->r<(200:Nat)->q<(200:Nat)->p<=r->s<=m->s<(1000:Nat):=zzM 0x2b597e8f41f6d000a2d007b2a0071a8f41f6b0001c6a3d07db00007aea0be029a00047 [m,n,p,q,r,s] ⋯
theorem Y286:a<=b->c<=d->((a<b)\/(c<d))->((m:Nat):Int)<=((((n:Nat):Int)-b)+(((p:Nat):Int)-d))->(((m+(1:Nat)):Nat):Int)<=((((n:Nat):Int)-a)+(((p:Nat):Int)-c)):=zzR 0x152aaaa8a84068a2910102807da00102ae8a84069a29101028a04087ac1f6a002a41f68002187aea087a68087 [a,b,c,d] [m,n,p] ⋯
theorem Y287:(0:Int)<a->((m:Nat):Int)<=((((n:Nat):Int)-(b+a))+(((p:Nat):Int)-(c+a)))->(((m+(1:Nat)):Nat):Int)<=((((n:Nat):Int)-b)+(((p:Nat):Int)-c)):=zzR 0x2baa8a84069a2910102807da00102a2a028a84068a40a29101028a04087a01f40f40087 [a,b,c] [m,n,p] ⋯
theorem Y289:m<(200:Nat)->m<(100000:Nat):=zzM 0x14387583d07da00006a3d07da00007 [m] ⋯
theorem Y290:m<(64:Nat)->m<(1000:Nat):=zzM 0x15fa3d07da0000283d07da00007 [m] ⋯
theorem Y291:(m+n)=(((2:Nat)*p)+q)->((m:Nat):Int)=((((2:Int)*((p:Nat):Int))+((q:Nat):Int))-((n:Nat):Int)):=zzM 0x5268a44a2b128a840be001a28103aea0be029a00047 [m,n,p,q] ⋯
theorem Y292:m<(200:Nat)->n<(200:Nat)->p<=m->(q+r)=(((2:Nat)*p)+n)->r<(100000:Nat):=zzM 0x96b0e1d60f41f6c000a6a0be02cac0047a2a0071a8f41f690001c6a3d07da00007 [m,n,p,q,r] ⋯
theorem Y293:m<(200:Nat)->n<=m->n<(1000000:Nat):=zzM 0x55ec3283d07da40028a401c6a3d07da00007 [m,n] ⋯
theorem Y294:m<(200:Nat)->n<(200:Nat)->p<=m->(q+r)=(((2:Nat)*p)+n)->q<(1000000:Nat):=zzM 0x96b7b0ca0f41f6b000a6a0be02cac0047a2a0071a8f41f690001c6a3d07da00007 [m,n,p,q,r] ⋯
theorem Y295:m<(100000:Nat)->n<=m->p<=m->(n+p)<(1000000:Nat):=zzM 0x2adec3283d07daa9000028a801e8a401c387583d07da00007 [m,n,p] ⋯
theorem Y300:m<=(m+n):=zzM 0x69a00a00 [m,n] ⋯
theorem Y303:(0:Int)<=a->((b-c)+a)=d->c<=b->(0:Int)<=d:=zzI 0x296b03d0a9a821eba2aa410031e803d087 [a,b,c,d] ⋯
theorem Y309:m<(64:Nat)->n<(64:Nat)->((3:Nat)*p)<=((m+n)+(2:Nat))->p<(64:Nat):=zzM 0x754283d07da80002f69a0002a0fe0070a0f41f690001c283d07da00007 [m,n,p] ⋯
theorem Y311:m=(4:Nat)->m<(100000:Nat):=zzM 0x24387583d07da00004f68047 [m] ⋯
theorem Y319:((m+(n+(1:Nat)))+(1:Nat))=p->(((m+(1:Nat))+n)+(1:Nat))=p:=zzM 0x526a07da41f68000001a81f41f69028000047 [m,n,p] ⋯
theorem Y320:((m+(n+(1:Nat)))+(1:Nat))=p->(m+(1:Nat))<p:=zzM 0x26a07d07da00000a81f41f69028000047 [m,n,p] ⋯
theorem Y321:((m+(n+(1:Nat)))+(1:Nat))=p->m<p:=zzM 0x9a81f68000a81f41f69028000047 [m,n,p] ⋯
theorem Y323:((m+(0:Nat))+(1:Nat))=n->m<n:=zzM 0x9a41f68000a41f40f68000047 [m,n] ⋯
theorem Y335:m=(4:Nat)->(0:Nat)<m:=zzM 0xaa01f40f40004f68047 [m] ⋯
theorem Y336:((a+(1:Int))+((m:Nat):Int))=(a+(((m+(1:Nat)):Nat):Int)):=zzR 0x16807da00128028a0407da00003 [a] [m] ⋯
theorem Y339:m<=((24:Nat)+((8:Nat)*(1:Nat)))->m<(1000:Nat):=zzM 0x57e8f41f6800007d23e63d028007 [m] ⋯
theorem Y341:m<=((24:Nat)+((8:Nat)*(2:Nat)))->m<(1000:Nat):=zzM 0x57e8f41f680000bd23e63d028007 [m] ⋯
theorem Y345:m<=((24:Nat)+((8:Nat)*(0:Nat)))->n<=m->p=((n+q)+(1:Nat))->q=(1:Nat)->p<(10000:Nat):=zzM 0x12549e30f41f6a00007dac11c1f6ba4002a047a2900703d23e63d028007 [m,n,p,q] ⋯
theorem Y347:(3:Int)=((m:Nat):Int)->m=(3:Nat):=zzM 0x4a83f68068a040fd0c7 [m] ⋯
theorem Y349:m<n->¬(m=(n+(1:Nat))):=zzM 0x26807da40a0112907da00007 [m,n] ⋯
theorem Y350:m<n->¬(m=n):=zzM 0x9a29a0112907da00007 [m,n] ⋯
theorem Y351:m<n->¬(m=(n+(3:Nat))):=zzM 0x2680fda40a0112907da00007 [m,n] ⋯
theorem Y352:m<n->¬(m=(n+(4:Nat))):=zzM 0x26813da40a0112907da00007 [m,n] ⋯
inductive V where
 |none |bool (b:ec) |int (i:Int) |str (s:Str)
 |tup (vs:aq V) |mat (i j k:Int)
 |ref (n:Nat) |dget (n:Nat) |scon (n:Nat) |rng (a b c:Int) |raw (a:d3)
 deriving Inhabited
def V.ctorIdx(v:V):Nat:=v.casesOn 0 (λ_=>1) (λ_=>2) (λ_=>3) (λ_=>4) (λ_ _ _=>5) (λ_=>6) (λ_=>7) (λ_=>8) (λ_ _ _=>9) λ_=>10
end
variable{env:Env}{a b:aq Int}
inductive Gn where
 |fresh (lo:Str->bc V)
 |loop (it:Nat) (lo:Str->bc V)
 |last (lo:Str->bc V)
 |run
 |fin
 deriving Inhabited
inductive MO where
 |list (vs:aq V) |ro (vs:aq V)
 |dict (n:Nat) (f:Int->bc V) |eset
 |inst (fs:Str->bc V)
 |gen (g:Gn)
 |itr (o:bc (Nat×Nat))
 |zt
 deriving Inhabited
def MO.ctorIdx(v:MO):Nat:=v.casesOn (λ_=>0) (λ_=>1) (λ_ _=>2) 3 (λ_=>4) (λ_=>5) (λ_=>6) 7
noncomputable abbrev MH:=aq MO
variable{H:MH}
structure Lc where
 a:d3
 d:d3
 g:bc Nat:=ba
def Lc.has(l:Lc)(b:d3):Prop:=b=l.a\/b=l.d
def Own(ρ:aq Lc)(b:d3):Prop:=∃ l∈ρ,l.has b
def mS(ρ:aq Lc)(b:d3):Prop:=∃ l∈ρ,l.a=b
def aY(o:Obj):Prop:=match o.data with
 | .seq _ _=>o.cls≠ .type "list"
 | .fields _=>o.cls= .type "builtin_function_or_method" \/o.cls= .type "range"
 |_=>f7
def Imm(h h':kh):Prop:=∀ b o,h.get? b=am o->aY o->h'.get? b=am o
def qV(o:Obj):Prop:=o.cls= .type "tuple"
def Im(ρ ρ':aq Lc)(h h':kh):Prop:=∀ b o,h.get? b=am o->aY o->(qV o->¬mS ρ b)->h'.get? b=am o/\(qV o->¬mS ρ' b)
theorem Im.refl(ρ:aq Lc)(h:kh):Im ρ ρ h h:=λq q e q n=>⟨e,n⟩
theorem Im.trans(a:Im f c h1 h2)(b:Im c d h2 g):Im f d h1 g:=λx o e i n=>b x o (a x o e i n).1 i (a x o e i n).2
theorem Imm.im(i:Imm h h'):Im ρ ρ h h':=λb o e q n=>⟨i b o e q,n⟩
theorem Imm.gra(i:Imm h h')(p:ρ<+:c)(n:∀ l∈c.drop ρ.length,h.get? l.a=ba):Im ρ c h h':=λb o e q m=>⟨i b o e q,λz=>by
 rintro ⟨l,f,d⟩
 obtain⟨t,rfl⟩:=p
 rcases e7.mp f with q |q
 ·exact m z ⟨l,q,d⟩
 ·have:=n l (by exact rwL nO q)
  rw[d,e]at this;exact cyM this⟩
theorem Imm.gr{b:aq Lc}(i:Imm h h')(p:ρ<+:b)(n:∀ l∈b.drop ρ.length,h.get? l.a=ba/\h.get? l.d=ba):Im ρ b h h':=i.gra p λl c=>(n l c).1
noncomputable abbrev aF:d3:=135
noncomputable abbrev d7:d3:=242
mutual
inductive VR(ρ:aq Lc)(h:kh):bt->V->Prop
 |none:VR ρ h .none .none
 |bool (b:_):VR ρ h (.bool b) (.bool b)
 |int (i t:_):VR ρ h (.int i t) (.int i)
 |str (s t:_):VR ρ h (.str s t) (.str s)
 |tup {a xs n vs:_}:h.get? a=am {cls:=.type "tuple",data:=.seq xs n}->¬mS ρ a->VRs ρ h xs.toList vs->VR ρ h (.ref a) (.tup vs)
 |mat {a n i j k t u v dd:_}:h.get? a=am {cls:=.ref aF,dict:=dd,data:=.seq #[.int i t,.int j u,.int k v] n}->VR ρ h (.ref a) (.mat i j k)
 |ref {n l:_}:ρ[n]? =am l->VR ρ h (.ref l.a) (.ref n)
 |dget {a n l:_}:ρ[n]? =am l->h.get? a=am {cls:=.type "builtin_function_or_method",data:=.fields #[.builtin "dict.get",.ref l.a]}->VR ρ h (.ref a) (.dget n)
 |scon {a n l:_}:ρ[n]? =am l->h.get? a=am {cls:=.type "builtin_function_or_method",data:=.fields #[.builtin "set.__contains__",.ref l.a]}->VR ρ h (.ref a) (.scon n)
 |rng {a i j k t u v:_}:IsRange h a i j k t u v->VR ρ h (.ref a) (.rng i j k)
 |raw (a:_):VR ρ h (.ref a) (.raw a)
inductive VRs(ρ:aq Lc)(h:kh):aq bt->aq V->Prop
 |nil:VRs ρ h [] []
 |cons {u us v vs:_}:VR ρ h u v->VRs ρ h us vs->VRs ρ h (u::us) (v::vs)
end
theorem aE{α:Type}{a:α}{P:Prop}(e:ba=am a):P:=nomatch e
def VRI(ρ:aq Lc)(h:kh)(x:bt):V->Prop
 | .none=>x= .none
 | .bool b=>x= .bool b
 | .int i=>∃ t,x= .int i t
 | .str s=>∃ t,x= .str s t
 | .tup vs=>∃ a xs n,x= .ref a/\h.get? a=am {cls:=.type "tuple",data:=.seq xs n}/\¬mS ρ a/\VRs ρ h xs.toList vs
 | .mat i j k=>∃ a n t u v dd,x= .ref a/\h.get? a=am {cls:=.ref aF,dict:=dd,data:=.seq #[.int i t,.int j u,.int k v] n}
 | .ref n=>∃ l,x= .ref l.a/\ρ[n]? =am l
 | .dget n=>∃ a l,x= .ref a/\ρ[n]? =am l/\h.get? a=am {cls:=.type "builtin_function_or_method",data:=.fields #[.builtin "dict.get",.ref l.a]}
 | .scon n=>∃ a l,x= .ref a/\ρ[n]? =am l/\h.get? a=am {cls:=.type "builtin_function_or_method",data:=.fields #[.builtin "set.__contains__",.ref l.a]}
 | .rng i j k=>∃ a t u v,x= .ref a/\IsRange h a i j k t u v
 | .raw a=>x= .ref a
theorem VR.inv(r:VR ρ h u v):VRI ρ h u v:=by
 cases r with
 |none=>exact rfl
 |bool=>exact rfl
 |int i t=>exact⟨t,rfl⟩
 |str s t=>exact⟨t,rfl⟩
 |tup g n rs=>exact⟨_,_,_,rfl,g,n,rs⟩
 |mat g=>exact⟨_,_,_,_,_,_,rfl,g⟩
 |ref g=>exact⟨_,rfl,g⟩
 |dget g a=>exact⟨_,_,rfl,g,a⟩
 |scon g a=>exact⟨_,_,rfl,g,a⟩
 |rng g=>exact⟨_,_,_,_,rfl,g⟩
 |raw=>exact rfl
theorem aR{a:aq Lc}(e:ρ<+:a){n:Nat}(h:ρ[n]? =am l):a[n]? =am l:=by
 refine xE e λt b=>?_;subst b
 exact rwL (jx (List.getElem?_eq_some_iff.mp h).1) h
theorem VR.mono(e:ρ<+:c)(i:Im ρ c h h')(r:VR ρ h u v):VR c h' u v:=by
 refine VR.rec (motive_2:=λus vs q=>VRs c h' us vs) .none .bool .int .str ?_ ?_ ?_ ?_ ?_ ?_ .raw .nil ?_ r
 ·intro a j n vs g m _ f;exact let k:=i _ _ g (by simp [aY]) λq=>m;.tup k.1 (k.2 rfl) f
 ·intro a n x y z t u v o g;exact .mat (i _ _ g (by simp [aY]) nofun).1
 ·intro n l g;exact .ref (aR e g)
 ·intro a n l g d;exact .dget (aR e g) (i _ _ d (by simp [aY]) λz=>bv z (by simp [qV])).1
 ·intro a n l g d;exact .scon (aR e g) (i _ _ d (by simp [aY]) λz=>bv z (by simp [qV])).1
 ·intro a x y z t u v g;exact .rng (i _ _ g (by simp [aY]) λz=>bv z (by simp [qV])).1
 ·intro u us v vs _ _ a b;exact .cons a b
theorem VRs.ind{P:aq bt->aq V->Prop}(n:P [] [])(c:∀ {u us v vs},VR ρ h u v->VRs ρ h us vs->P us vs->P (u::us) (v::vs))(r:VRs ρ h us vs):P us vs:=VRs.rec (motive_1:=λq q q=>qm) trivial (λq=>trivial) (λq q=>trivial) (λq q=>trivial) (λq q q q=>trivial) (λq=>trivial) (λq=>trivial) (λq q=>trivial) (λq q=>trivial) (λq=>trivial) (λq=>trivial) n (λa b q d=>c a b d) r
theorem VRs.mono{b:aq Lc}(e:ρ<+:b)(i:Im ρ b h h')(r:VRs ρ h us vs):VRs b h' us vs:=r.ind .nil λa q c=>.cons (a.mono e i) c
theorem VRs.length(r:VRs ρ h us vs):us.length=vs.length:=r.ind (P:=λus vs=>us.length=vs.length) rfl λq q a=>b3 Nat.succ a
theorem VRs.get(r:VRs ρ h us vs):∀ {i:Nat}{v:V},vs[i]? =am v->∃ u,us[i]? =am u/\VR ρ h u v:=r.ind (P:=λus vs=>∀ {i:Nat}{v:V},vs[i]? =am v->∃ u,us[i]? =am u/\VR ρ h u v) (λe=>aE (List.getElem?_nil.symm.trans e)) λ{u us v vs} a q b {i w} e=>by
  cases i with
  |zero=>exact⟨u,rfl,Option.some.inj e▸a⟩
  |succ i=>exact b e
theorem VRs.append(r:VRs ρ h us vs)(b:VRs ρ h c vs'):VRs ρ h (us++c) (vs++vs'):=r.ind (P:=λus vs=>VRs ρ h (us++c) (vs++vs')) b λa q d=>.cons a d
theorem VRs.take(r:VRs ρ h us vs):∀ n:Nat,VRs ρ h (us.take n) (vs.take n):=r.ind (P:=λus vs=>∀ n:Nat,VRs ρ h (us.take n) (vs.take n)) (λn=>by exact rwL List.take_nil (rwL List.take_nil .nil)) λa q b n=>by
  cases n with
  |zero=>exact .nil
  |succ n=>exact .cons a (b n)
theorem VRs.drop(r:VRs ρ h us vs):∀ n:Nat,VRs ρ h (us.drop n) (vs.drop n):=r.ind (P:=λus vs=>∀ n:Nat,VRs ρ h (us.drop n) (vs.drop n)) (λn=>by exact rwL List.drop_nil (rwL List.drop_nil .nil)) λa b c n=>by
  cases n with
  |zero=>exact .cons a b
  |succ n=>exact c n
def OV(ρ:aq Lc)(h:kh):bc bt->bc V->Prop
 |none,ba=>qm
 |some u,am v=>VR ρ h u v
 |_,_=>f7
theorem OV.mono{a:aq Lc}(e:ρ<+:a)(i:Im ρ a h h'):∀ {u:bc bt}{v:bc V},OV ρ h u v->OV a h' u v
 |none,ba,_=>trivial
 |some _,am _,x=>VR.mono e i x
 |none,am _,x=>x.elim
 |some _,ba,x=>x.elim
def dD:aq Str:=["isjunk","a","b","autojunk","matching_blocks","opcodes","fullbcount","b2j","bjunk","bpopular"]
structure Cx where
 prog:pj
 w:kb
 base:bo
 lim:base.heap.NoLimit
 GR:aq Lc->bo->Lc->Gn->Prop
 mono:∀ {ρ ρ':aq Lc}{s s':bo}{l:Lc}{g:Gn},ρ<+:ρ'->Im ρ ρ' s.heap s'.heap->(∀ o,s.heap.get? l.a=am o->s'.heap.get? l.a=am o)->(∀ o,s.heap.get? l.d=am o->s'.heap.get? l.d=am o)->
  (∀ k x,l.g=am k->s.gens[k]? =am x->s'.gens[k]? =am x)->GR ρ s l g->GR ρ' s' l g
 here:∀ {ρ s l g},GR ρ s l g->∃ o o',s.heap.get? l.a=am o/\s.heap.get? l.d=am o'/\¬aY o/\¬aY o'
variable{C:Cx}
noncomputable abbrev Cx.M(C:Cx):wg:=ir C.prog C.w
def OR(C:Cx)(ρ:aq Lc)(s:bo)(l:Lc):MO->Prop
 | .list vs=>l.d=l.a/\l.g=ba/\∃ xs n,IsL s.heap l.a xs n/\VRs ρ s.heap xs.toList vs
 | .ro vs=>l.d=l.a/\l.g=ba/\∃ xs,C.base.heap.IsList l.a xs/\VRs ρ s.heap xs.toList vs
 | .dict n f=>l.d=l.a/\l.g=ba/\∃ kvs:aq (Int×bt),s.heap.DictOf (sv C.prog C.w) l.a kvs/\kvs.length<=n/\∀ k,OV ρ s.heap (pG kvs k) (f k)
 | .eset=>l.d=l.a/\l.g=ba/\∃ n t,s.heap.get? l.a=am {cls:=.type "set",data:=.set #[] n t}/\t.fits 0=be
 | .inst fs=>l.g=ba/\l.d≠l.a/\(∃ o,s.heap.get? l.a=am o/\o.cls= .ref d7/\o.data= .plain/\o.dict=am l.d)/\∃ m,s.heap.Ns1 l.d m/\s.heap.ExactDictFk l.d/\Within m dD/\∀ x,OV ρ s.heap (m x) (fs x)
 | .gen g=>C.GR ρ s l g
 | .itr ba=>l.d=l.a/\l.g=ba/\∃ o,s.heap.get? l.a=am o/\¬aY o
 | .itr (am p)=>l.d=l.a/\l.g=ba/\∃ li,ρ[p.1]? =am li/\s.heap.IsListIter l.a li.a p.2
 | .zt=>l.d=l.a/\l.g=ba/\∃ a b,s.heap.get? l.a=am {cls:=.type "tuple",data:=.seq #[a,b]}
structure Sim(C:Cx)(H:MH)(ρ:aq Lc)(s:bo):Prop where
 len:ρ.length=H.length
 keep:∀ b o,C.base.heap.get? b=am o->s.heap.get? b=am o
 objs:∀ (i:Nat) (m:MO) (l:Lc),H[i]? =am m->ρ[i]? =am l->OR C ρ s l m
 ro:∀ (i:Nat) (l:Lc),ρ[i]? =am l->(∃ vs,H[i]? =am (.ro vs))\/(C.base.heap.get? l.a=ba/\C.base.heap.get? l.d=ba)
 disj:∀ (i j:Nat) (li lj:Lc),ρ[i]? =am li->ρ[j]? =am lj->i≠j->∀ b,li.has b->¬lj.has b
 disjG:∀ (i j:Nat) (li lj:Lc) (k:Nat),ρ[i]? =am li->ρ[j]? =am lj->i≠j->li.g=am k->lj.g≠am k
 os:s.os=C.base.os
 bare:qu s.gens
structure Nx(ρ:aq Lc)(W:d3->Prop)(s:bo)(ρ':aq Lc)(s':bo):Prop where
 pre:ρ<+:ρ'
 new:∀ l∈ρ'.drop ρ.length,s.heap.get? l.a=ba/\s.heap.get? l.d=ba
 kp:∀ b o,s.heap.get? b=am o->¬Own ρ b->¬W b->s'.heap.get? b=am o
 imm:Im ρ ρ' s.heap s'.heap
 al:∀ b o,s.heap.get? b=am o->∃ o',s'.heap.get? b=am o'
theorem Nx.own{a:aq Lc}(N:Nx ρ W s a s'){b:d3}(c:s.heap.get? b=am o)(h: ¬Own ρ b): ¬Own a b:=by
 rintro ⟨l,e,d⟩
 refine xE N.pre λt f=>?_;subst f
 refine Or.elim (e7.mp e) (λq=>(h ⟨l,q,d⟩)) λq=>?_
 ·have:=N.new l (by simpa using q)
  rcases d with rfl |rfl
  ·rw[this.1]at c;cases c
  ·rw[this.2]at c;cases c
theorem Nx.refl:Nx ρ W s ρ s:=⟨cc _,λl a=>by simp at a,λq q e q q=>e,.refl _ _,λq o e=>⟨o,e⟩⟩
theorem Nx.trans(a:Nx ρ W s g s1)(b:Nx g W s1 f s2):Nx ρ W s f s2:=by
 refine⟨a.pre.trans b.pre,λl h=>(xE a.pre λt m=>?_),λx o e j i=>b.kp x o (a.kp x o e j i) (a.own e j) i,a.imm.trans b.imm,λx o e=>xE (a.al x o e) λo' c=>b.al x o' c⟩;subst m
 refine xE b.pre λt' k=>?_;subst k
 rw[dt,nO]at h
 refine Or.elim (e7.mp h) (λq=>(a.new l (by simpa using q))) λq=>?_
 ·have n:=b.new l (by simpa using q)
  refine⟨?_,?_⟩
  ·cases e:s.heap.get? l.a with
   |none=>rfl
   |some o=>refine xE (a.al _ _ e) λo' c=>?_;rw[n.1]at c;cases c
  ·cases e:s.heap.get? l.d with
   |none=>rfl
   |some o=>refine xE (a.al _ _ e) λo' c=>?_;rw[n.2]at c;cases c
theorem Nx.weaken(a:Nx ρ W s c s')(h:∀ b,W b->W' b):Nx ρ W' s c s':=⟨a.pre,a.new,λb o e f d=>a.kp b o e f λq=>d (h b q),a.imm,a.al⟩
def noW:d3->Prop:=λq=>f7
theorem OR.mono(e:ρ<+:c)(i:Im ρ c s.heap s'.heap)(h1:∀ o,s.heap.get? l.a=am o->s'.heap.get? l.a=am o)(h2:∀ o,s.heap.get? l.d=am o->s'.heap.get? l.d=am o)(J:∀ k x,l.g=am k->s.gens[k]? =am x->s'.gens[k]? =am x)(r:OR C ρ s l m):OR C c s' l m:=by
 cases m with
 |list vs=>exact kF r λa g v n x y=>⟨a,g,v,n,h1 _ x,y.mono e i⟩
 |ro vs=>exact q9 r λa g v x y=>⟨a,g,v,x,y.mono e i⟩
 |dict n f=>refine wL r λa g h G x y=>?_;obtain⟨o,A,u,j,q⟩:=G;exact⟨a,g,h,⟨o,A,u,h1 _ j,q⟩,x,λk=>(y k).mono e i⟩
 |eset=>exact kF r λa g n t x y=>⟨a,g,n,t,h1 _ x,y⟩
 |inst fs=>refine pC r λg B D m H K w y=>xEA D λo a b=>?_;obtain⟨F,A,u,j,q⟩:=H;refine xEA K λod E x=>?_;exact⟨g,B,⟨o,h1 _ a,b⟩,m,⟨F,A,u,h2 _ j,q⟩,⟨od,h2 _ E,x⟩,w,λk=>(y k).mono e i⟩
 |gen g=>exact C.mono e i h1 h2 J r
 |itr p=>cases p with
  |none=>exact q9 r λa g o y z=>⟨a,g,o,h1 _ y,z⟩
  |some p=>exact aG4 r λa g I x o y z=>⟨a,g,I,aR e x,o,h1 _ y,z⟩
 |zt=>exact⟨r.1,r.2.1,r.2.2.choose,r.2.2.choose_spec.choose,h1 _ r.2.2.choose_spec.choose_spec⟩
theorem Sim.same(S:Sim C H ρ s)(d:∀ b o,s.heap.get? b=am o->(Own ρ b\/(C.base.heap.get? b).isSome=be)->s'.heap.get? b=am o)(i:Im ρ ρ s.heap s'.heap)(f:∀ (k:Nat) (x:pH),s.gens[k]? =am x->s'.gens[k]? =am x)(c:s'.os=s.os)(h:qu s'.gens):Sim C H ρ s':=by
 exact⟨S.len,λb o e=>d b o (S.keep b o e) (.inr (by rw[e];rfl)),λj m l g a=>((S.objs j m l g a).mono (cc _) i (λo e=>d _ o e (.inl ⟨l,(eg a),.inl rfl⟩)) (λo e=>d _ o e (.inl ⟨l,(eg a),.inr rfl⟩)) (λk x q e=>f k x e)),S.ro,S.disj,S.disjG,c.trans S.os,h⟩
noncomputable abbrev Lo:=Str->bc V
variable{lo:Lo}
def Wr(env:Env)(b:d3):Prop:=b=env.locals\/∃ x,env.cells.lookup x=am b
structure Fm(C:Cx)(env:Env)(ρ:aq Lc)(s:bo)(lo:Lo):Prop where
 fn:env.scope.kind= .function
 gl:env.globals=gw
 bi:env.builtins=kl
 ns:∃ m,s.heap.Ns env.locals m/\∀ x,env.kindOf x=am .local->OV ρ s.heap (m x) (lo x)
 cl:∀ x,env.kindOf x=am .cell\/env.kindOf x=am .free->∃ c o u,env.cells.lookup x=am c/\s.heap.get? c=am o/\o.data= .cell u/\OV ρ s.heap u (lo x)
 own:∀ b,Wr env b->¬Own ρ b/\C.base.heap.get? b=ba
 dis:∀ x c,env.cells.lookup x=am c->c≠env.locals
 inj:∀ x y c,env.cells.lookup x=am c->env.cells.lookup y=am c->x=y
 alv:∀ b,Wr env b->∃ o,s.heap.get? b=am o
theorem Fm.next(F:Fm C env ρ s lo)(N:Nx ρ W s d s')(q:∀ b,Wr env b->¬W b):Fm C env d s' lo:=by
 refine xEA F.ns λm i p=>?_;obtain⟨o,v,j,h,l⟩:=i
 have k:=λb o a e=>N.kp b o e (F.own b a).1 (q b a)
 exact⟨F.fn,F.gl,F.bi,⟨m,⟨o,v,j,k _ _ (.inl rfl) h,l⟩,λx f=>(p x f).mono N.pre N.imm⟩,λx f=>(d5 (F.cl x f) λc o u g r t n=>⟨c,o,u,g,k _ _ (.inr ⟨x,g⟩) r,t,n.mono N.pre N.imm⟩),λb a=>⟨(xE (F.alv b a) λo e=>N.own e (F.own b a).1),(F.own b a).2⟩,F.dis,F.inj,λb a=>xE (F.alv b a) λo e=>N.al b o e⟩
def Room(r:Nat)(A:fq):Prop:=A.handled=ba/\A.depth+10*r<=700/\A.units+40*r<=8000
theorem Room.lt(h:Room r A):A.depth<recursionLimit:=by exact(A0 h.2.1:A.depth<1000)
noncomputable abbrev NoE:bt->bo->Prop:=λq q=>f7
noncomputable abbrev EK:=V->MH->Prop
noncomputable abbrev EF:=Lo->MH->EK->Prop
inductive EPo(C:Cx)(ρ:aq Lc)(s:bo)(H':MH)(v:V)(x:bt)(s':bo):Prop
 |mk (ρ':aq Lc) (S:Sim C H' ρ' s') (N:Nx ρ noW s ρ' s') (r:VR ρ' s'.heap x v):EPo C ρ s H' v x s'
inductive bQ(C:Cx)(ρ:aq Lc)(s:bo)(Q:EK)(x:bt)(s':bo):Prop
 |mk {ρ':aq Lc}{v:V}{H':MH} (S:Sim C H' ρ' s') (N:Nx ρ noW s ρ' s') (r:VR ρ' s'.heap x v) (q:Q v H'):bQ C ρ s Q x s'
def EV(C:Cx)(r:Nat)(env:Env)(e:Expr)(f:EF):Prop:=∀ ⦃A:fq⦄⦃s:bo⦄⦃ρ:aq Lc⦄⦃H:MH⦄⦃lo:Lo⦄⦃Q:EK⦄,Room r A->Sim C H ρ s->Fm C env ρ s lo->f lo H Q->
  bw C.M A (jc e env) (bQ C ρ s Q) NoE s
theorem wmN{s:bo}(h:bw M A t P NoE s)(k:∀ a s',P a s'->Q a s'):bw M A t Q E s:=f4 h k λq q z=>z.elim
theorem bQ.run{K:bt->bo->Prop}(h:bw M A t (bQ C ρ s Q) NoE s)(k:∀ {x s' a v H'},Sim C H' a s'->Nx ρ noW s a s'->VR a s'.heap x v->Q v H'->K x s'):bw M A t K E s:=wmN h λb b z=>z.casesOn λS N r q=>k S N r q
theorem EV.run(h:EV C r env e f){K:bt->bo->Prop}(b:Room r A)(S:Sim C H ρ s)(F:Fm C env ρ s lo)(q:f lo H Q)(k:∀ {x s' a v H'},Sim C H' a s'->Nx ρ noW s a s'->VR a s'.heap x v->Q v H'->K x s'):bw C.M A (jc e env) K E s:=bQ.run (h b S F q) k
theorem EPo.post(h:EPo C ρ s H' v x s')(q:Q v H'):bQ C ρ s Q x s':=by cases h with |mk _ S N r=>exact ⟨S,N,r,q⟩
theorem Fm.nx{a:aq Lc}(F:Fm C env ρ s lo)(N:Nx ρ noW s a s'):Fm C env a s' lo:=F.next N λq q z=>z
theorem VR.nx{a:aq Lc}(r:VR ρ s.heap u v)(N:Nx ρ W s a s'):VR a s'.heap u v:=r.mono N.pre N.imm
theorem VRs.nx{a:aq Lc}(r:VRs ρ s.heap us vs)(N:Nx ρ W s a s'):VRs a s'.heap us vs:=r.mono N.pre N.imm
theorem bQ.from{a:aq Lc}(N:Nx ρ noW s a s1)(p:bQ C a s1 Q x s'):bQ C ρ s Q x s':=by cases p with |mk S b r q=>exact ⟨S,N.trans b,r,q⟩
theorem EPo.from{a:aq Lc}(N:Nx ρ noW s a s1)(p:EPo C a s1 H' v x s'):EPo C ρ s H' v x s':=by cases p with |mk b S c r=>exact ⟨b,S,N.trans c,r⟩
theorem aU(h:kh):h.get? h.objs.size=ba:=by
 cases e:h.get? h.objs.size with
 |none=>rfl
 |some o=>exact bv (Heap.lt_size e) (Nat.lt_irrefl _)
theorem Sim.toks(S:Sim C H ρ s)(k:Nat):Sim C H ρ {s with toks:=k}:=S.same (λq q e q=>e) (.refl _ _) (λq q e=>e) rfl S.bare
theorem Nx.toks(k:Nat):Nx ρ W s ρ {s with toks:=k}:=⟨cc _,λl a=>by simp at a,λq q e q q=>e,.refl _ _,λq o e=>⟨o,e⟩⟩
theorem fY(h:kh)(o:Obj):Imm h (h.push o):=λb x e q=>Heap.get?_push_of_some o e
theorem Sim.push(S:Sim C H ρ s)(o:Obj):Sim C H ρ {s with heap:=s.heap.push o}:=S.same (λq q e q=>Heap.get?_push_of_some o e) (fY _ _).im (λq q e=>e) rfl S.bare
theorem Nx.push(o:Obj):Nx ρ W s ρ {s with heap:=s.heap.push o}:=⟨cc _,λl a=>by simp at a,λq q e q q=>Heap.get?_push_of_some o e,(fY _ _).im,λq x e=>⟨x,Heap.get?_push_of_some o e⟩⟩
theorem Sim.live(S:Sim C H ρ s){i:Nat}(E:ρ[i]? =am l):(∃ o,s.heap.get? l.a=am o/\(¬aY o\/qV o))/\∃ o,s.heap.get? l.d=am o/\(¬aY o\/qV o):=by
 have D:i<H.length:=by exact rwR S.len ((List.getElem?_eq_some_iff.mp E).1)
 have r:=S.objs i H[i] l (getElem?_eq_getElem D) E
 revert r
 cases H[i] with
 |list vs=>rintro ⟨a,g,M,n,x,y⟩;exact rwL a ⟨⟨_,x,.inl (by simp [aY])⟩,⟨_,x,.inl (by simp [aY])⟩⟩
 |ro vs=>rintro ⟨a,g,M,⟨o,x,B,n,c⟩,y⟩;rw[a];exact⟨⟨_,(S.keep _ _ x),.inl (by simp [aY,c,B])⟩,⟨_,(S.keep _ _ x),.inl (by simp [aY,c,B])⟩⟩
 |dict n f=>rintro ⟨a,g,K,⟨o,P,L,w,B,c,_⟩,_⟩;exact rwL a ⟨⟨_,w,.inl (by simp [aY,c])⟩,⟨_,w,.inl (by simp [aY,c])⟩⟩
 |eset=>rintro ⟨a,g,n,t,x,y⟩;rw[a];exact⟨⟨_,x,.inl (by simp [aY])⟩,⟨_,x,.inl (by simp [aY])⟩⟩
 |inst fs=>rintro ⟨g,Q,⟨o,a,_,b,_⟩,m,⟨F,P,L,w,c,q⟩,_⟩;exact⟨⟨_,a,.inl (by simp [aY,b])⟩,⟨_,w,.inl (by simp [aY,c])⟩⟩
 |gen g=>exact λr=>((by exact λ{α j p0 p1 p2 p3 G} h k=>h.elim λa0 A=>A.elim λa1 e=>k a0 a1 e.1 e.2.1 e.2.2.1 e.2.2.2:∀{α j:Sort _}{p0:α->j->Prop}{p1:α->j->Prop}{p2:α->j->Prop}{p3:α->j->Prop}{G:Prop}(h:∃ a0:α,∃ a1:j,p0 a0 a1/\p1 a0 a1/\p2 a0 a1/\p3 a0 a1)(k:∀ a0,∀ a1,p0 a0 a1->p1 a0 a1->p2 a0 a1->p3 a0 a1->G),G) (C.here r) (λo F A e O N=>⟨⟨o,A,.inl O⟩,⟨F,e,.inl N⟩⟩))
 |itr p=>cases p with
  |none=>rintro ⟨a,g,o,y,z⟩;rw[a];exact⟨⟨o,y,.inl z⟩,⟨o,y,.inl z⟩⟩
  |some p=>rintro ⟨a,g,R,x,o,y,I,J⟩;rw[a];exact⟨⟨o,y,.inl (by simp [aY,I,J])⟩,⟨o,y,.inl (by simp [aY,I,J])⟩⟩
 |zt=>rintro ⟨a,g,u,v,y⟩;exact rwL a ⟨⟨_,y,.inr rfl⟩,⟨_,y,.inr rfl⟩⟩
theorem Sim.nown(S:Sim C H ρ s){a:d3}(h:s.heap.get? a=ba): ¬mS ρ a:=λq=>by
 refine xEA q λl c d=>xE (kM c) λi e=>?_
 refine xAEA (S.live e) λz10 f g i=>xEA z10 λo b i=>?_
 rw[d,h]at b;cases b
theorem dM(a:∀ b o,h.get? b=am o->h'.get? b=am o):Imm h h':=λb o e q=>a b o e
theorem hJ{α:Type}{ρ:aq α}{l l':α}(h:(ρ++[l])[i]? =am l'):ρ[i]? =am l'\/(i=ρ.length/\l'=l):=by
 refine Or.elim (qy i ρ.length) (λq=>(.inl (rwR (jx q) h))) λq=>?_
 ·rw[gM q]at h
  cases e:i-ρ.length with
  |zero=>rw[e]at h;exact .inr ⟨Nat.le_antisymm (Nat.le_of_sub_eq_zero e) q,(Option.some.inj h).symm⟩
  |succ n=>rw[e]at h;cases h
theorem k8(S:Sim C H ρ s){b:d3}(h:s.heap.get? b=ba):C.base.heap.get? b=ba:=by
 cases e:C.base.heap.get? b with
 |none=>rfl
 |some o=>exact cyM (rwR (S.keep _ _ e) h)
theorem rQ{C:Cx}{H:MH}{ρ:aq Lc}{s:bo}(S:Sim C H ρ s){l:Lc}(k:s.heap.get? l.a=ba)(m:s.heap.get? l.d=ba){b:d3}(h:l.has b): ¬Own ρ b:=by
 rintro ⟨l',c,g⟩
 refine xE (kM c) λi f=>?_
 refine xAEA (S.live f) λz11 j i n=>xEA z11 λo e n=>?_
 have q:s.heap.get? b=ba:=by rcases h with rfl |rfl<;>assumption
 rcases g with rfl |rfl
 ·cases (q▸e)
 ·cases (q▸i)
theorem Sim.new(S:Sim C H ρ s)(p:∀ b o,s.heap.get? b=am o->s'.heap.get? b=am o)(J:∀ (k:Nat) (x:pH),s.gens[k]? =am x->s'.gens[k]? =am x)(F:s'.os=s.os)(L:qu s'.gens)(v:s.heap.get? l.a=ba)(u:s.heap.get? l.d=ba)(I:∀ k,l.g=am k->∀ l'∈ρ,l'.g≠am k)(K:OR C (ρ++[l]) s' l m):Sim C (H++[m]) (ρ++[l]) s'/\∀ W,Nx ρ W s (ρ++[l]) s':=by
 have G:= @rQ C H ρ s S l v u
 refine⟨⟨by rw[bq,bq,S.len];rfl,λb o e=>p b o (S.keep b o e),λi x l' B c=>?_,λi l' c=>?_,λi j w r E D f b h n=>?_,λi j w r k E D f h n=>?_,F.trans S.os,L⟩,
  λW=>⟨gy _ _,λl' c=>?_,λb o e M M=>p b o e,(dM p).gr (gy _ _) λl' c=>(by rw[nO]at c;cases dv.mp c;exact⟨v,u⟩),λb o e=>⟨o,p b o e⟩⟩⟩
 ·rcases hJ c with q |⟨rfl,rfl⟩
  ·exact(S.objs i x l' (rwR (jx (by exact rwR S.len ((List.getElem?_eq_some_iff.mp q).1))) B) q).mono (gy _ _) ((dM p).gr (gy _ _) λl' c=>(by rw[nO]at c;cases dv.mp c;exact⟨v,u⟩)) (λo e=>p _ o e) (λo e=>p _ o e) (λk y M e=>J k y e)
  ·rw[S.len,gM (Nat.le_refl _),pI]at B
   exact cxS B K
 ·rcases hJ c with q |⟨rfl,rfl⟩
  ·exact rwL (jx (by exact rwR S.len ((List.getElem?_eq_some_iff.mp q).1))) (S.ro i l' q)
  ·exact .inr ⟨k8 S v,k8 S u⟩
 ·rcases hJ E with q |⟨z,rfl⟩<;>rcases hJ D with t |⟨A,rfl⟩
  ·exact S.disj i j w r q t f b h n
  ·exact G n ⟨w,eg q,h⟩
  ·exact G h ⟨r,eg t,n⟩
  ·exact f (z.trans A.symm)
 ·rcases hJ E with q |⟨z,rfl⟩<;>rcases hJ D with t |⟨A,rfl⟩
  ·exact S.disjG i j w r k q t f h n
  ·exact I k n w (eg q) h
  ·exact I k h r (eg t) n
  ·exact f (z.trans A.symm)
 ·rw[nO]at c;cases dv.mp c;exact⟨v,u⟩
theorem Sim.grow(S:Sim C H ρ s)(i:∀ b o,s.heap.get? b=am o->h'.get? b=am o)(h:s.heap.get? l.a=ba)(j:s.heap.get? l.d=ba)(c:l.g=ba)(f:OR C (ρ++[l]) {s with heap:=h',toks:=k} l m):Sim C (H++[m]) (ρ++[l]) {s with heap:=h',toks:=k}/\∀ W,Nx ρ W s (ρ++[l]) {s with heap:=h',toks:=k}:=S.new (s':= {s with heap:=h',toks:=k}) i (λq q e=>e) rfl S.bare h j (λk e=>by cases (c▸e)) f
theorem Sim.last(S:Sim C H ρ s):(ρ++[l])[H.length]? =am l:=by rw[<-S.len];simp
theorem Sim.alloc(S:Sim C H ρ s)(o:Obj)(m:MO)(a:OR C (ρ++[⟨s.heap.objs.size,s.heap.objs.size,ba⟩]) {s with heap:=s.heap.push o} ⟨s.heap.objs.size,s.heap.objs.size,ba⟩ m):
  Sim C (H++[m]) (ρ++[⟨s.heap.objs.size,s.heap.objs.size,ba⟩]) {s with heap:=s.heap.push o}:=(S.grow (λq q e=>Heap.get?_push_of_some o e) (aU _) (aU _) rfl a).1
theorem Im.snoc(d:h.get? l.a=am o1)(f: ¬qV o1):Im ρ (ρ++[l]) h h:=λb o e g m=>⟨e,λz=>by
 rintro ⟨l',c,b⟩
 rcases e7.mp c with q |q
 ·exact m z ⟨l',q,b⟩
 ·cases dv.mp q
  rw[<-b,d]at e;refine cyS e λzq=>?_;subst zq;exact f z⟩
theorem Nx.alloc(o:Obj):Nx ρ W s (ρ++[⟨s.heap.objs.size,s.heap.objs.size,ba⟩]) {s with heap:=s.heap.push o}:=⟨gy _ _,λl a=>by simp at a;subst a;exact⟨aU _,aU _⟩,λq q e q q=>Heap.get?_push_of_some o e,(fY _ _).gr (gy _ _) λl a=>(by simp at a;subst a;exact⟨aU _,aU _⟩),λq x e=>⟨x,Heap.get?_push_of_some o e⟩⟩
theorem Sim.upd(S:Sim C H ρ s)(h:ρ[i]? =am l)(u:H[i]? =am m)(r:∀ vs,m≠ .ro vs)(p:∀ b o,s.heap.get? b=am o->¬l.has b->s'.heap.get? b=am o)(w:Im ρ ρ s.heap s'.heap)(t:s'.gens=s.gens)(n:s'.os=s.os)(v:OR C ρ s' l m')(z:∀ vs,m'≠ .ro vs):Sim C (H.set i m') ρ s':=by
 have f:C.base.heap.get? l.a=ba/\C.base.heap.get? l.d=ba:=by
  rcases S.ro i l h with ⟨vs,e⟩ |e
  ·exact bv (Option.some.inj (u▸e)) (r vs)
  ·exact e
 refine⟨by simp [S.len],λb o e=>p b o (S.keep b o e) (λq=>by rcases q with rfl |rfl<;>simp_all),λj x g k c=>?_,λj g c=>?_,S.disj,S.disjG,n.trans S.os,by exact rwL t S.bare⟩
 ·by_cases e:j=i
  ·subst e
   rw[h]at c;refine cxS c ?_
   rw[fp ((List.getElem?_eq_some_iff.mp u).1)]at k;refine cxS k ?_
   exact v
  ·have d:=S.disj j i g l c h e
   exact(S.objs j x g (rwR (iy (Ne.symm e)) k) c).mono (cc _) w (λo q=>p _ o q (d _ (.inl rfl))) (λo q=>p _ o q (d _ (.inr rfl))) (λk y A q=>by exact rwL t q)
 ·by_cases e:j=i
  ·subst e
   rw[h]at c;refine cxS c ?_
   exact .inr f
  ·exact rwL (iy (Ne.symm e)) (S.ro j g c)
theorem EPo.here(S:Sim C H ρ s)(r:VR ρ s.heap x v):EPo C ρ s H v x s:=⟨ρ,S,.refl,r⟩
theorem EPo.tok(S:Sim C H ρ s)(r:VR ρ s.heap x v):EPo C ρ s H v x {s with toks:=k}:=⟨ρ,S.toks _,.toks _,r⟩
theorem bQ.here(S:Sim C H ρ s)(r:VR ρ s.heap x v)(q:Q v H):bQ C ρ s Q x s:=⟨S,.refl,r,q⟩
theorem bQ.tok(S:Sim C H ρ s)(r:VR ρ s.heap x v)(q:Q v H):bQ C ρ s Q x {s with toks:=k}:=⟨S.toks _,.toks _,r,q⟩
def eK(v:V):EF:=λq H Q=>Q v H
theorem EV.int{k}{pos}:EV C r env (.Constant (.int i) k pos) (eK (.int i)):=λa a a a a a a S a q=>wpAny_Constant_int (.tok S (.int _ _) q)
theorem EV.none{k}{pos}:EV C r env (.Constant .none k pos) (eK .none):=λa a a a a a a S a q=>wpAny_Constant_none (.here S .none q)
theorem EV.bool{b}{k}{pos}:EV C r env (.Constant (.bool b) k pos) (eK (.bool b)):=λa a a a a a a S a q=>wpAny_Constant_bool (.here S (.bool b) q)
theorem EV.str{k}{pos}:EV C r env (.Constant (.str x) k pos) (eK (.str x)):=λa a a a a a a S a q=>wpAny_Constant_str (.tok S (.str _ _) q)
def Lf{α:Type}(o:bc α)(Q:α->Prop):Prop:=match o with |some p=>Q p |none=>f7
theorem Lf.elim{P:Prop}(h:Lf o Q)(k:∀ p,o=am p->Q p->P):P:=match o,h,k with
 |some p,h,k=>k p rfl h
theorem Lf.mk{p:α}(e:o=am p)(q:Q p):Lf o Q:=by exact rwL e q
def Lp(o:bc (V×MH))(Q:EK):Prop:=Lf o λp=>Q p.1 p.2
def eN(x:Str):EF:=λlo H Q=>Lf (lo x) λv=>Q v H
theorem OV.elim{P:Prop}(e:w=am v)(o:OV ρ h u w)(k:∀ x,u=am x->VR ρ h x v->P):P:=by
 subst e
 cases u with
 |none=>exact False.elim o
 |some x=>exact k x rfl o
theorem aAv{A:fq}{P:Prop}(F:Fm C env ρ s lo)(h:lo x=am v)(g:env.kindOf x=am .cell\/env.kindOf x=am .free)(k:∀ c o u,env.cells.lookup x=am c->s.heap.get? c=am o->o.data= .cell (am u)->VR ρ s.heap u v->P):P:=by
 exact d5 (F.cl x g) λc o u a d f b=>b.elim h λu e r=>k c o u a d (f.trans (by rw[e])) r
theorem rI(hk:env.kindOf x=am .local\/env.kindOf x=am .cell\/env.kindOf x=am .free)(g:(x==("__classdict__" :Str))=false)(F:Fm C env ρ s lo)(f:lo x=am v)(k:∀ u,VR ρ s.heap u v->Q u s):bw C.M A (loadName env x) Q E s:=by
 refine Or.elim hk (λhk=>(xEA F.ns λm b h=>(h x hk).elim f λu e r=>wpAny_loadName_local F.fn hk b e (k u r))) λz12=>Or.elim z12 (λhk=>?_) λhk=>?_
 ·exact aAv (A:=A) F f (.inl hk) λc o u a c d r=>wpAny_loadName_cell F.fn hk a ⟨o,c,d⟩ (k u r)
 ·exact aAv (A:=A) F f (.inr hk) λc o u a c d r=>wpAny_loadName_free F.fn hk a ⟨o,c,d⟩ (k u r) g
theorem EV.name{pos}(a:env.kindOf x=am .local\/env.kindOf x=am .cell\/env.kindOf x=am .free)(d:(x==("__debug__" :Str))=false)(b:(x==("__classdict__" :Str))=false):EV C r env (.Name x pos) (eN x):=λe e e e e e e S F q=>q.elim λe c q=>wpAny_Name (rI a b F c λe rv=>.here S rv q) d
noncomputable abbrev OpF:=V->V->MH->bc (V×MH)
def OpR(C:Cx)(r:Nat)(op:bt->bt->Sem bt)(g:OpF):Prop:=∀ ⦃A:fq⦄⦃s:bo⦄⦃ρ:aq Lc⦄⦃H:MH⦄⦃a b:bt⦄⦃va vb:V⦄⦃Q:EK⦄,Room r A->Sim C H ρ s->VR ρ s.heap a va->VR ρ s.heap b vb->Lp (g va vb H) Q->
  bw C.M A (op a b) (bQ C ρ s Q) NoE s
theorem OpR.of(h:∀ {A:fq}{s:bo}{ρ:aq Lc}{H:MH}{a b:bt}{d c v:V}{H':MH},Room r A->Sim C H ρ s->VR ρ s.heap a d->VR ρ s.heap b c->g d c H=am (v,H')-> bw C.M A (op a b) (EPo C ρ s H' v) NoE s):OpR C r op g:=λk k k k k k k k k j S f i q=>q.elim λk e q=>wmN (h j S f i e) λk k p=>p.post q
def aA(g:OpF)(f1 f2:EF):EF:=λlo H Q=>f1 lo H λa H1=>f2 lo H1 λb H2=>Lp (g a b H2) Q
theorem EV.two(h1:EV C r env e f1)(h2:EV C r env h f2){Q:V->V->MH->Prop}{K:bt->bt->bo->Prop}(j:Room r A)(S:Sim C H ρ s)(F:Fm C env ρ s lo)(g:f1 lo H λa H1=>f2 lo H1 λb d=>Q a b d)(k:∀ {x y s2 c a b d},Sim C d c s2->Nx ρ noW s c s2->VR c s2.heap x a->VR c s2.heap y b->Q a b d->K x y s2):bw C.M A (jc e env) (λx s1=>bw C.M A (jc h env) (λy s2=>K x y s2) NoE s1) NoE s:=h1.run j S F g λS1 f m g=>h2.run j S1 (F.nx f) g λS2 i l q=>k S2 (f.trans i) (m.nx i) l q
theorem EV.binOp{a b:Expr}(h1:EV C r env a f1)(h2:EV C r env b f2)(e:OpR C r (qN op) g):EV C r env (.BinOp a op b pos) (aA g f1 f2):=λi i i i i i c S F q=>wpAny_BinOp (EV.two h1 h2 c S F q λS2 h d f q=>wmN (e c S2 d f q) λi i p=>p.from h)
theorem EV.cmp1{b a:Expr}(h1:EV C r env b f1)(h2:EV C r env a f2)(f:OpR C r (jo op) g)(e:ve op a=false):EV C r env (.Compare b [op] [a] pos) (aA g f1 f2):=λj j j j j j c S F q=>wpAny_Compare1 (EV.two h1 h2 c S F q λS2 i d h q=>wmN (f c S2 d h q) λj j p=>p.from i) e
def Ti(v:V):bc Int:=match v with | .int x=>am x |_=>ba
theorem VR.tiE(r:VR ρ h u v)(e:Ti v=am i):∃ t,u= .int i t:=by
 cases v with
 |int j=>exact cxS e r.inv
 |_=>first |exact aE e |cases e
theorem VR.ti{P:bt->Prop}(r:VR ρ h u v)(e:Ti v=am i)(k:∀ t,P (.int i t)):P u:=xE (r.tiE e) λt e=>e▸k t
def o2(p:Int->Int->ec)(f:Int->Int->V):OpF:=λa b H=>(Ti a).bind λx=>(Ti b).bind λy=>if p x y then am (f x y,H) else ba
set_option tactic.hygienic true in
theorem aH6{a b:V}{P:Prop}(e:o2 p f a b H=am (v,H'))(k:∀ x y,Ti a=am x->Ti b=am y->p x y=be->v=f x y->H'=H->P):P:=by
 refine xEA (bn.mp e) λx d e=>xEA (bn.mp e) λy h e=>?_
 split at e
 ·rename_i c;refine cySP e λzq g=>?_;subst zq g;exact k x y d h c rfl rfl
 ·exact aE e
def nR:OpF:=o2 (λq q=>be) λx y=>.int (x+y)
def bL:OpF:=o2 (λq q=>be) λx y=>.int (x-y)
def vE:OpF:=o2 (λx q=>decide (-1000000000<x/\x<1000000000)) λx y=>.int (x*y)
def nQ:OpF:=o2 (λq y=>decide (0<y/\y<1000000000)) λx y=>.int (x/y)
def gQ:OpF:=o2 (λq y=>decide (0<y)) λx y=>.int (x%y)
theorem OpR.i2(h:∀ {A:fq}{s:bo}{ρ:aq Lc}{x y:Int}{t u:Tok}{Q:bt->bo->Prop},Room r A->p x y=be->(∀ z k,VR ρ s.heap z (f x y)->Q z {s with toks:=k})->bw C.M A (op (.int x t) (.int y u)) Q NoE s):OpR C r op (o2 p f):=
 by
  refine OpR.of ?_
  intro A s ρ H a b w q v H' o S i m e
  refine aH6 e λx y g l n c d=>?_
  subst c d
  exact VR.ti (P:=λa=>bw C.M A (op a b) _ _ _) i g λt=>VR.ti (P:=λb=>bw C.M A (op _ b) _ _ _) m l λu=>h o n λz k j=>EPo.tok S j
theorem OpR.sub:OpR C r (qN .Sub) bL:=OpR.i2 λq q k=>sub_int (k _ _ (.int _ _))
theorem OpR.mul:OpR C r (qN .Mult) vE:=OpR.i2 λq b k=>by
 have a:=cb b
 exact mul_int (k _ _ (.int _ _)) (.of_left (intBits_le_64 (jd (Int.lt_trans (by decide) a.1)) (Int.lt_trans a.2 (by decide))))
theorem OpR.div:OpR C r (qN .FloorDiv) nQ:=OpR.i2 λq b k=>by
 have a:=cb b
 exact floordiv_int (Int.ne_of_gt a.1) (k _ _ (rwL (Int.fdiv_eq_ediv_of_nonneg _ (jd a.1)) (.int _ _))) (.inl (PyProof.noPylong_small (by omega)))
theorem OpR.mod:OpR C r (qN .Mod) gQ:=OpR.i2 λq b k=>by
 have a:=cb b
 exact mod_int' (Int.ne_of_gt a) (k _ _ (rwL (Int.fmod_eq_emod_of_nonneg _ (jd a)) (.int _ _)))
def oCmp(f:Int->Int->ec):OpF:=o2 (λq q=>be) λx y=>.bool (f x y)
noncomputable abbrev oLt:OpF:=oCmp λx y=>decide (x<y)
noncomputable abbrev oLe:OpF:=oCmp λx y=>decide (x<=y)
noncomputable abbrev oGt:OpF:=oCmp λx y=>decide (x>y)
noncomputable abbrev oGe:OpF:=oCmp λx y=>decide (x>=y)
theorem OpR.lt:OpR C r (jo .Lt) oLt:=OpR.i2 λq q k=>lt_int (k _ _ (.bool _))
theorem OpR.le:OpR C r (jo .LtE) oLe:=OpR.i2 λq q k=>le_int (k _ _ (.bool _))
theorem OpR.gt:OpR C r (jo .Gt) oGt:=OpR.i2 λq q k=>gt_int (k _ _ (.bool _))
theorem OpR.ge:OpR C r (jo .GtE) oGe:=OpR.i2 λq q k=>ge_int (k _ _ (.bool _))
open PySem PySem.W PyProof.Rows PySem.Calls PyProof
def MO.vs:MO->bc (aq V) | .list vs=>am vs | .ro vs=>am vs |_=>ba
def MO.own:MO->bc (aq V) | .list vs=>am vs |_=>ba
def V.rf:V->bc Nat | .ref i=>am i |_=>Option.none
def lst(H:MH)(v:V):bc (aq V):=v.rf.bind λi=>H[i]?.bind MO.vs
def own(H:MH)(v:V):bc (aq V):=v.rf.bind λi=>H[i]?.bind MO.own
theorem VR.toRef(r:VR ρ h u v)(e:v.rf=am i):∃ l,v= .ref i/\u= .ref l.a/\ρ[i]? =am l:=by
 cases v with
 |ref n=>exact cxS e (xEA r.inv λl b c=>⟨l,rfl,b,c⟩)
 |_=>first |exact aE e |cases e
theorem lst_mo{i:Nat}(e:H[i]?.bind MO.vs=am vs):H[i]? =am (.list vs)\/H[i]? =am (.ro vs):=by
 refine xEA (bn.mp e) λm b a=>?_
 cases m with
 |list ws=>exact cxS a (.inl b)
 |ro ws=>exact cxS a (.inr b)
 |_=>cases a
theorem kO{i:Nat}(e:H[i]?.bind MO.own=am vs):H[i]? =am (.list vs):=by
 refine xEA (bn.mp e) λm b a=>?_
 cases m with
 |list ws=>exact cxS a b
 |_=>cases a
theorem b6(S:Sim C H ρ s)(r:VR ρ s.heap u v)(e:lst H v=am vs):∃ a xs,u= .ref a/\s.heap.IsList a xs/\VRs ρ s.heap xs.toList vs:=by
 refine xEA (bn.mp e) λi f e=>c6 (r.toRef f) λl j d g=>Or.elim (lst_mo e) (λh=>(kF (S.objs i _ l h g) λm m xs k c rs=>⟨_,xs,d,⟨_,c,rfl,_,rfl⟩,rs⟩)) λh=>?_
 ·refine q9 (S.objs i _ l h g) λm m xs b rs=>xEA b λo c q=>?_;exact⟨_,xs,d,⟨o,S.keep _ _ c,q⟩,rs⟩
structure l6(H:MH)(ρ:aq Lc)(s:bo)(i:Nat)(l:Lc)(vs:aq V)(xs:jf bt)(n:Nat):Prop where
 g:ρ[i]? =am l
 d:l.d=l.a
 gn:l.g=ba
 h:H[i]? =am (.list vs)
 x:IsL s.heap l.a xs n
 r:VRs ρ s.heap xs.toList vs
theorem jL(S:Sim C H ρ s)(g:ρ[i]? =am l)(h:H[i]? =am (.list vs)):∃ xs n,l6 H ρ s i l vs xs n:=let ⟨a,b,xs,k,c,rs⟩:=S.objs i _ l h g;⟨xs,k,g,a,b,h,c,rs⟩
theorem VRs.sz{xs:jf bt}(r:VRs ρ h xs.toList vs):xs.size=vs.length:=by exact rwR r.length Array.length_toList.symm
def aEl:V->bc mc | .none=>am .none | .bool b=>am (.bool b) | .int i=>am (.int i) | .str s=>am (.str s) |_=>ba
def rd(H:MH):Nat->V->bc mc
 |0,v=>aEl v
 |n+1,.tup vs=>(vs.mapM (rd H n)).map .tuple
 |n+1,.ref i=>(lst H (.ref i)).bind λvs=>(vs.mapM (rd H n)).map .list
 |_+1,v=>aEl v
theorem f8(r:VR ρ h u v)(e:aEl v=am d):∃ f,wh h u d f:=by
 cases v with
 |none=>refine cxS e ?_;cases(show u= .none from r.inv);exact⟨_,.none⟩
 |bool b=>refine cxS e ?_;cases(show u= .bool b from r.inv);exact⟨_,.bool b⟩
 |int i=>exact cxS e (xE r.inv λt c=>rwL c ⟨_,.int i t⟩)
 |str x=>exact cxS e (xE r.inv λt a=>rwL a ⟨_,.str x t⟩)
 |_=>first |exact aE e |cases e
theorem mY(l:∀ {u:bt}{v:V}{d:mc},VR ρ h u v->rd H n v=am d->∃ c,wh h u d c)(r:VRs ρ h us vs):∀ {b:aq mc},vs.mapM (rd H n)=am b->∃ c,ReadsAll h us b c:=r.ind (P:=λus vs=>∀ {b:aq mc},vs.mapM (rd H n)=am b->∃ c,ReadsAll h us b c) (λe=>by exact cxS e ⟨_,.nil⟩) λa q f b e=>by
  simp only[uU,vw,bn,pure_def,Option.some.injEq]at e
  refine aCd e λd i b k g=>?_;clear e;subst g
  exact xE (l a i) λas m=>xE (f k) λbs j=>⟨_,.cons m j⟩
theorem hN(S:Sim C H ρ s):∀ (n:Nat){u:bt}{v:V}{d:mc},VR ρ s.heap u v->rd H n v=am d->∃ m,wh s.heap u d m:=λn=>by
 induction n with
 |zero=>
  intro _ _ _ r e
  exact f8 r e
 |succ n l=>
  intro u v d r e
  cases r with
  |tup g _ rs=>
   refine xEA (dy.mp e) λds f a=>rwR a ?_
   exact xE (mY (l) rs f) λas h=>⟨_,.tuple g rfl rfl h⟩
  |ref g=>
   refine xEA (bn.mp e) λvs w e=>xEA (dy.mp e) λds f j=>rwR j ?_
   refine bM (b6 S (.ref g) w) λa A z c rs=>?_;obtain⟨o,p,y,k,q⟩:=c
   refine xE (mY (l) rs f) λas h=>?_
   cases z
   exact⟨_,.list p y q h⟩
  |none=>exact f8 (ρ:=ρ) .none e
  |bool b=>exact f8 (ρ:=ρ) (.bool b) e
  |int i t=>exact f8 (ρ:=ρ) (.int i t) e
  |str x t=>exact f8 (ρ:=ρ) (.str x t) e
  |_=>first |exact aE e |cases e
def eqD:Nat:=8
def eqv(H:MH)(a b:V):bc ec:=(rd H eqD a).bind λda=>(rd H eqD b).bind λdb=>if PySem.SeqAt.shaped da && PySem.SeqAt.shaped db then am (PyData.eqv da db) else ba
def aX(f:ec->ec):OpF:=λa b H=>(eqv H a b).map λt=>(.bool (f t),H)
theorem Room.units(h:Room r A):A.units+64<cLine:=by exact(A1 h.2.2:A.units+64<9900)
set_option tactic.hygienic true in
theorem OpR.eqB(h:∀ {A:fq}{s:bo}{a b:bt}{da db:mc}{as bs:aq d3}{Q:bt->bo->Prop},Room r A->wh s.heap a da as->wh s.heap b db bs->PySem.SeqAt.shaped da=be->PySem.SeqAt.shaped db=be-> Q (.bool (f (PyData.eqv da db))) s->bw C.M A (op a b) Q NoE s):OpR C r op (aX f):=by
 refine OpR.of ?_
 intro A s ρ H a b q p v H' o S j l e
 exact xEA (dy.mp e) λt c m=>(by
  refine xEA (bn.mp c) λda i c=>xEA (bn.mp c) λdb k c=>xE (hN S _ j i) λas g=>xE (hN S _ l k) λbs d=>?_
  split at c
  ·rename_i hs
   exact (λda db as bs g d s1 s2 n=>h o g d s1 s2 (by exact cxP m (rwR n (.here S (.bool _))))) da db as bs g d (du.mp hs).1 (du.mp hs).2 (Option.some.inj c).symm
  ·first |exact aE c |cases c)
theorem OpR.eq:OpR C r (jo .Eq) (aX id):=OpR.eqB λhr a b s1 s2 q=>eq_dataH a b s1 s2 hr.units q
theorem OpR.ne:OpR C r (jo .NotEq) (aX not):=OpR.eqB λhr a b s1 s2 q=>ne_dataH a b s1 s2 hr.units q
def tr(v:V)(H:MH):bc ec:=match v with
 | .none=>am false
 | .bool b=>am b
 | .int i=>am (i != 0)
 | .str x=>if x.length<1000000 then am ((x.length:Int) != 0) else ba
 | .ref i=>(lst H (.ref i)).bind λvs=>if vs.length<1000000 then am (!vs.isEmpty) else ba
 |_=>ba
noncomputable abbrev TF:=Lo->MH->(ec->MH->Prop)->Prop
inductive nJ(C:Cx)(ρ:aq Lc)(s:bo)(Q:ec->MH->Prop)(b:ec)(s':bo):Prop
 |mk {ρ':aq Lc}{H':MH} (S:Sim C H' ρ' s') (N:Nx ρ noW s ρ' s') (q:Q b H'):nJ C ρ s Q b s'
def TV(C:Cx)(r:Nat)(env:Env)(e:Expr)(f:TF):Prop:=∀ ⦃A:fq⦄⦃s:bo⦄⦃ρ:aq Lc⦄⦃H:MH⦄⦃lo:Lo⦄⦃Q:ec->MH->Prop⦄,Room r A->Sim C H ρ s->Fm C env ρ s lo->f lo H Q->
  bw C.M A (isTrue e env (jc e env)) (nJ C ρ s Q) NoE s
theorem TV.run(h:TV C r env e f){K:ec->bo->Prop}(c:Room r A)(S:Sim C H ρ s)(F:Fm C env ρ s lo)(q:f lo H Q)(k:∀ {b s' a H'},Sim C H' a s'->Nx ρ noW s a s'->Q b H'->K b s'):bw C.M A (isTrue e env (jc e env)) K E s:=wmN (h c S F q) λd d z=>z.casesOn λS N q=>k S N q
theorem nJ.from{a:aq Lc}{b:ec}(N:Nx ρ noW s a s1)(p:nJ C a s1 Q b s'):nJ C ρ s Q b s':=by cases p with |mk S c q=>exact ⟨S,N.trans c,q⟩
theorem aA2{b:ec}{K:ec->bo->Prop}(S:Sim C H ρ s)(rv:VR ρ s.heap u v)(e:tr v H=am b)(k:∀ n,K b {s with toks:=n}):bw C.M A (truthy u) K E s:=by
 cases v with
 |none=>refine cyS e λzq=>?_;subst zq;cases(show u= .none from rv.inv);exact PyProof.Rows.truthy_none (k s.toks)
 |bool b'=>cases e;cases(show u= .bool b from rv.inv);exact pX (k s.toks)
 |int i=>refine cyS e λzq=>?_;subst zq;exact xE rv.inv λt d=>rwL d (truthy_int (k s.toks))
 |str x=>
  refine xE rv.inv λt h=>?_;subst h
  have e:(if x.length<1000000 then am ((x.length:Int) != 0) else ba)=am b:=e
  by_cases c:x.length<1000000
  ·rw[ca c]at e
   have e:=Option.some.inj e
   subst e
   exact PySem.P.truthy_str (by omega) (k _)
  ·rw[bz c]at e;cases e
 |ref g=>
  refine xEA (bn.mp e) λvs c e=>bM (b6 S rv c) λa l f o p=>?_;subst f
  by_cases a:vs.length<1000000
  ·rw[ca a]at e
   have j:=p.sz
   refine wpAny_truthy_list o (by omega) ?_
   have m:(! l.isEmpty)=b:=by
    rw[<-Option.some.inj e]
    unfold Array.isEmpty
    refine rwL j ?_
    cases vs<;>rfl
   exact m▸k _
  ·cases ((bz a)▸e)
 |_=>first |exact aE e |cases e
def tE(f:EF):TF:=λlo H Q=>f lo H λv H1=>Lf (tr v H1) λb=>Q b H1
theorem mU{a:aq Lc}(S:Sim C H a s1)(N:Nx ρ noW s a s1)(rv:VR a s1.heap u v)(e:Lf (tr v H) λb=>Q b H):bw C.M A (truthy u) (nJ C ρ s Q) E s1:=e.elim λb e q=>aA2 S rv e λc=>⟨S.toks _,N.trans (.toks _),q⟩
theorem TV.val(h:EV C r env e f)(b:isTrue e env (jc e env)=(do let v<-jc e env;wk e.pos;sx [v] (truthy v))):TV C r env e (tE f):=λi i i i i i c S F g=>wpAny_isTrue_value (h.run c S F g λS1 d a q=>mU S1 d a q) b
def tNot(f:TF):TF:=λlo H Q=>f lo H λb H'=>Q (!b) H'
theorem TV.not(h:TV C r env e f):TV C r env (.UnaryOp .Not e pos) (tNot f):=λb b b b b b a S F g=>wpAny_isTrue_Not (h.run a S F g λS N q=>⟨S,N,q⟩)
theorem TV.cmp1{b a:Expr}(h1:EV C r env b f1)(h2:EV C r env a f2)(f:OpR C r (jo op) g)(e:ve op a=false):TV C r env (.Compare b [op] [a] pos) (tE (aA g f1 f2)):=λl l l l l l c S F q=>wpAny_isTrue_Compare1 (EV.two h1 h2 c S F q λS2 j d i q=>bQ.run (f c S2 d i q) λS3 h k q=>mU S3 (j.trans h) k q) e
def bC(f g:TF):TF:=λlo H Q=>f lo H λb H1=>bif b then g lo H1 Q else Q false H1
def tOr(f g:TF):TF:=λlo H Q=>f lo H λb H1=>bif b then Q be H1 else g lo H1 Q
def tK(b:ec):TF:=λq H Q=>Q b H
def j7(C:Cx)(r:Nat)(env:Env)(op:BoolOp)(es:aq Expr)(f:TF):Prop:=∀ ⦃A:fq⦄⦃s:bo⦄⦃ρ:aq Lc⦄⦃H:MH⦄⦃lo:Lo⦄⦃Q:ec->MH->Prop⦄,Room r A->Sim C H ρ s->Fm C env ρ s lo->f lo H Q->
  bw C.M A (allTrue op es env) (nJ C ρ s Q) NoE s
theorem j7.and_nil:j7 C r env .And [] (tK be):=λa a a a a a a S a q=>wpAny_allTrue_And_nil ⟨S,.refl,q⟩
theorem j7.or_nil:j7 C r env .Or [] (tK false):=λa a a a a a a S a q=>wpAny_allTrue_Or_nil ⟨S,.refl,q⟩
theorem j7.and_cons(h:TV C r env e f)(hs:j7 C r env .And c g):j7 C r env .And (e::c) (bC f g):=λj j j j j j d S F q=>wpAny_allTrue_And_cons (h.run d S F q λ{b j j j} i a q=>match b,q with
  |true,q=>wmN (hs d i (F.nx a) q) λj j p=>p.from a
  |false,q=>⟨i,a,q⟩)
theorem j7.or_cons(h:TV C r env e f)(hs:j7 C r env .Or c g):j7 C r env .Or (e::c) (tOr f g):=λj j j j j j d S F q=>wpAny_allTrue_Or_cons (h.run d S F q λ{b j j j} i a q=>match b,q with
  |false,q=>wmN (hs d i (F.nx a) q) λj j p=>p.from a
  |true,q=>⟨i,a,q⟩)
theorem TV.boolOp{a:aq Expr}(h:j7 C r env op a f):TV C r env (.BoolOp op a pos) f:=λq q q q q q b S F e=>wpAny_isTrue_BoolOp (h b S F e)
def eIf(t:TF)(f g:EF):EF:=λlo H Q=>t lo H λb H1=>bif b then f lo H1 Q else g lo H1 Q
theorem EV.ifExp(h:TV C r env t e)(h1:EV C r env d f1)(h2:EV C r env f f2):EV C r env (.IfExp t d f pos) (eIf e f1 f2):=λi i i i i i c S F q=>wpAny_IfExp (h.run c S F q λ{b i i i} g a q=>match b,q with
  |true,q=>wmN (h1 c g (F.nx a) q) λi i p=>p.from a
  |false,q=>wmN (h2 c g (F.nx a) q) λi i p=>p.from a)
def cS(f:EF):EF:=λlo H Q=>f lo H λv H1=>Lf (Ti v) λi=>Q (.int (-i)) H1
theorem EV.neg(h:EV C r env e f):EV C r env (.UnaryOp .USub e pos) (cS f):=λg g g g g g c S F q=>wpAny_UnaryOp (h.run c S F q λ{x s' g g g} d a b q=>q.elim λi e q=>VR.ti (P:=λx=>bw C.M _ (unaryOp .USub x) _ _ s') b e λt=>neg_int ⟨d.toks _,a.trans (.toks _),.int _ _,q⟩)
noncomputable abbrev EFs:=Lo->MH->(aq V->MH->Prop)->Prop
def esN:EFs:=λq H Q=>Q [] H
def esC(f:EF)(g:EFs):EFs:=λlo H Q=>f lo H λv H1=>g lo H1 λvs H2=>Q (v::vs) H2
inductive yQ(C:Cx)(ρ:aq Lc)(s:bo)(Q:aq V->MH->Prop)(xs:aq bt)(s':bo):Prop
 |mk {ρ':aq Lc}{vs:aq V}{H':MH} (S:Sim C H' ρ' s') (N:Nx ρ noW s ρ' s') (r:VRs ρ' s'.heap xs vs) (q:Q vs H'):yQ C ρ s Q xs s'
def EVs(C:Cx)(r:Nat)(env:Env)(es:aq Expr)(f:EFs):Prop:=∀ ⦃A:fq⦄⦃s:bo⦄⦃ρ:aq Lc⦄⦃H:MH⦄⦃lo:Lo⦄⦃Q:aq V->MH->Prop⦄⦃pos:Pos⦄,Room r A->Sim C H ρ s->Fm C env ρ s lo->f lo H Q->
  bw C.M A (spliced (lr pos (e9 es env))) (yQ C ρ s Q) NoE s
theorem EVs.nil:EVs C r env [] esN:=λa a a a a a a a S a q=>ug ⟨S,.refl,.nil,q⟩
theorem EVs.cons{a:aq Expr}(h:EV C r env e f)(hs:EVs C r env a g)(k:e9 (e::a) env=(false,jc e env)::e9 a env):EVs C r env (e::a) (esC f g):=λl l l l l l l d S F q=>qo (h.run d S F q λS1 b j q=>wmN (hs d S1 (F.nx b) q) λl l z=>z.casesOn λS2 c i q=>⟨S2,b.trans c,.cons (j.nx c) i,q⟩) k
def bH(g:EFs):EF:=λlo H Q=>g lo H λvs H1=>vs.length<100/\Q (.tup vs) H1
theorem EV.tuple{b:aq Expr}(h:EVs C r env b g):EV C r env (.Tuple b k pos) (bH g):=λi i i i i i e S F q=>wpAny_Tuple (wmN (h e S F q) λxs s1 ⟨c,f,a,d,q⟩=>⟨by exact rwL a.length (rwL ez (A2 d)),c.push _,f.trans (.push _),.tup (Heap.get?_push_size _ rfl) (c.nown (aU _)) (by simpa using a.mono (cc _) (fY _ _).im),q⟩)
def mkL(vs:aq V)(H:MH):bc (V×MH):=if vs.length<1000000 then am (.ref H.length,H++[.list vs]) else ba
set_option tactic.hygienic true in
theorem jN{P:Prop}(e:mkL vs H=am p)(k:vs.length<1000000->p=(.ref H.length,H++[.list vs])->P):P:=by
 unfold mkL at e
 split at e
 ·rename_i h;exact k h (Option.some.inj e).symm
 ·first |exact aE e |cases e
def cX(g:EFs):EF:=λlo H Q=>g lo H λvs H1=>Lp (mkL vs H1) Q
theorem Sim.newList(S:Sim C H ρ s)(b:VRs ρ s.heap xs.toList vs):EPo C ρ s (H++[.list vs]) (.ref H.length) (.ref s.heap.objs.size) {s with heap:=s.heap.push {cls:=.type "list",data:=.seq xs}}:=by
 refine⟨ρ++[⟨s.heap.objs.size,s.heap.objs.size,ba⟩],S.alloc {cls:=.type "list",data:=.seq xs} (.list vs) ⟨rfl,rfl,xs,0,Heap.get?_push_size _ rfl,b.mono (gy _ _) ((fY _ _).gr (gy _ _) λl a=>(by simp at a;exact rwL a ⟨aU _,aU _⟩))⟩,.alloc _,?_⟩
 exact VR.ref (l:=⟨s.heap.objs.size,s.heap.objs.size,ba⟩) (by rw[<-S.len];simp)
theorem EV.list{b:aq Expr}(h:EVs C r env b g):EV C r env (.List b pos) (cX g):=λf f f f f f c S F q=>wpAny_List (wmN (h c S F q) λxs s1 z=>z.casesOn λS1 d a q=>q.elim λp e q=>jN e λhl e=>by
  subst e
  exact⟨by exact rwL a.length (rwL ez (A3 hl)),((S1.newList (by simpa using a)).from d).post q⟩)
def aH:OpF:=λa b H=>match Ti a,Ti b with
 |some x,am y=>am (.int (x+y),H)
 |_,_=>(lst H a).bind λxs=>(lst H b).bind λys=>mkL (xs++ys) H
set_option tactic.hygienic true in
theorem OpR.add:OpR C r (qN .Add) aH:=by
 refine OpR.of ?_
 intro A s ρ H a b Q O v H' N S z rb e
 unfold aH at e
 split at e
 ·rename_i x y d l
  exact cxSP e (VR.ti (P:=λa=>bw C.M A (qN .Add a b) _ _ _) z d λt=>VR.ti (P:=λb=>bw C.M A (qN .Add _ b) _ _ _) rb l λu=>add_int (.tok S (.int _ _)))
 ·refine xEA (bn.mp e) λxs d e=>xEA (bn.mp e) λys l e=>jN e λhl e=>?_
  cases e
  refine bM (b6 S z d) λi K k E t=>?_;subst k
  refine bM (b6 S rb l) λj m g o2 B=>?_;subst g
  have G:=B.sz
  obtain⟨⟨cls,L,data,sl⟩,w,J,n,I⟩:=E
  obtain⟨⟨u,h,o,q⟩,c,f,D,p⟩:=o2
  subst J;subst I;subst f;subst p
  exact concat_meets ⟨_,w,rfl⟩ ⟨_,c,rfl⟩ noFill_list_add seq_list_add PySem.F.slot_list_add PySem.F.entry_list_add (PySem.F.args_list_add_2 _ _) (list_addW i j K m n D L h sl q (by exact rwL ez (A4 (rwR bq hl) t.sz G))) ⟨w,c,S.newList (by exact rwL Array.toList_append (t.append B))⟩
inductive Fl where
 |next |brk |cont |ret (v:V)
inductive FlR(ρ:aq Lc)(h:kh):wc->Fl->Prop
 |next:FlR ρ h .next .next
 |brk:FlR ρ h .brk .brk
 |cont:FlR ρ h .cont .cont
 |ret {u v} (r:VR ρ h u v):FlR ρ h (.ret u) (.ret v)
noncomputable abbrev SK:=Fl->Lo->MH->Prop
variable{K:SK}
noncomputable abbrev SF:=Lo->MH->SK->Prop
inductive nK(C:Cx)(env:Env)(ρ:aq Lc)(s:bo)(Q:SK)(f:wc)(s':bo):Prop
 |mk {ρ':aq Lc}{fl:Fl}{lo':Lo}{H':MH} (S:Sim C H' ρ' s') (N:Nx ρ (Wr env) s ρ' s') (F:Fm C env ρ' s' lo') (r:FlR ρ' s'.heap f fl) (q:Q fl lo' H'):nK C env ρ s Q f s'
def SV(C:Cx)(r:Nat)(env:Env)(st:jg)(f:SF):Prop:=∀ ⦃A:fq⦄⦃s:bo⦄⦃ρ:aq Lc⦄⦃H:MH⦄⦃lo:Lo⦄⦃Q:SK⦄,Room r A->Sim C H ρ s->Fm C env ρ s lo->f lo H Q->
  bw C.M A (exec st env) (nK C env ρ s Q) NoE s
def SVs(C:Cx)(r:Nat)(env:Env)(st:aq jg)(f:SF):Prop:=∀ ⦃A:fq⦄⦃s:bo⦄⦃ρ:aq Lc⦄⦃H:MH⦄⦃lo:Lo⦄⦃Q:SK⦄,Room r A->Sim C H ρ s->Fm C env ρ s lo->f lo H Q->
  bw C.M A (pu st env) (nK C env ρ s Q) NoE s
theorem nK.from{a:aq Lc}(N:Nx ρ (Wr env) s a s1)(p:nK C env a s1 Q f s'):nK C env ρ s Q f s':=by cases p with |mk S b F r q=>exact ⟨S,N.trans b,F,r,q⟩
theorem Nx.wr{a:aq Lc}(N:Nx ρ noW s a s'):Nx ρ W s a s':=N.weaken λb q=>q.elim
def upd(lo:Lo)(x:Str)(v:V):Lo:=λy=>if y=x then am v else lo y
theorem dU{a:d3}(hs:Heap.SameBut a h h')(c:h.get? a=am o)(d: ¬aY o):Imm h h':=λb x e i=>by
 by_cases q:b=a
 ·subst q;refine cyS (c▸e) λzq=>?_;subst zq;exact bv i d
 ·exact rwL (hs.2 b q) e
theorem Sim.side{a:d3}(S:Sim C H ρ s)(hs:Heap.SameBut a s.heap h')(g:s.heap.get? a=am o)(f: ¬aY o)(c: ¬Own ρ a)(d:C.base.heap.get? a=ba):Sim C H ρ {s with heap:=h',toks:=k}:=by
 refine S.same (λb x e q=>?_) (dU hs g f).im (λh h e=>e) rfl S.bare
 have:b≠a:=by
  rintro rfl
  refine Or.elim q (λq=>(c q)) λq=>?_
  ·cases (d▸q)
 exact(rwL (hs.2 b this) e:h'.get? b=am x)
theorem Nx.side{a:d3}(hs:Heap.SameBut a s.heap h')(j:s.heap.get? a=am o)(g: ¬aY o)(i:W a)(h:∃ d,h'.get? a=am d):Nx ρ W s ρ {s with heap:=h',toks:=k}:=⟨cc _,λl c=>by simp at c,λb x e l f=>by
  have:b≠a:=by rintro rfl;exact f i
  exact(rwL (hs.2 b this) e:h'.get? b=am x),(dU hs j g).im,λb x e=>by
  by_cases q:b=a
  ·exact rwL q h
  ·exact⟨x,by exact(rwL (hs.2 b q) e:h'.get? b=am x)⟩⟩
inductive eV(C:Cx)(env:Env)(W:d3->Prop)(ρ:aq Lc)(s:bo)(Q:Lo->MH->Prop)(u:uq)(s':bo):Prop
 |mk {ρ':aq Lc}{lo':Lo}{H':MH} (S:Sim C H' ρ' s') (N:Nx ρ W s ρ' s') (F:Fm C env ρ' s' lo') (q:Q lo' H'):eV C env W ρ s Q u s'
theorem eV.from{a:aq Lc}(N:Nx ρ W s a s1)(p:eV C env W a s1 Q x s'):eV C env W ρ s Q x s':=by cases p with |mk S b F q=>exact ⟨S,N.trans b,F,q⟩
theorem eV.run{α:Type}{K:uq->bo->Prop}(h:bw M A t (eV C env W ρ s Q) NoE s)(k:∀ {x s' a b H'},Sim C H' a s'->Nx ρ W s a s'->Fm C env a s' b->Q b H'->K x s'):bw M A t K E s:=wmN h λc c z=>z.casesOn λS N F q=>k S N F q
theorem hI{K:uq->bo->Prop}(S:Sim C H ρ s)(F:Fm C env ρ s lo)(rv:VR ρ s.heap u v)(e:(env.kindOf x=am .local/\W env.locals)\/(env.kindOf x=am .cell/\∀ c,env.cells.lookup x=am c->W c))(k:∀ s',Sim C H ρ s'->Nx ρ W s ρ s'->Fm C env ρ s' (upd lo x v)->K () s'):bw C.M A (storeName env x u) K E s:=by
 rcases e with ⟨e,r⟩ |⟨e,r⟩
 ·refine xEA F.ns λm d w=>iE (id d) λo U R n P T=>?_
  have f: ¬aY o:=by delta aY;exact rwL P id
  refine wpAny_storeName_local e d (λh' G hs=>?_) (by rw[F.fn];rfl)
  have h:=dU hs n f
  refine k _ (S.side hs n f (F.own _ (.inl rfl)).1 (F.own _ (.inl rfl)).2) (.side hs n f r (let ⟨o2,_,_,g,_⟩:=G;⟨o2,g⟩)) ⟨F.fn,F.gl,F.bi,⟨_,G,λy hy=>?_⟩,λy hy=>?_,F.own,F.dis,F.inj,λb D=>?_⟩
  ·by_cases q:y=x
   ·simp only[upd,ca q];exact rv.mono (cc _) h.im
   ·simp only[upd,bz q];exact(w y hy).mono (cc _) h.im
  ·refine d5 (F.cl y hy) λc B N a i l L=>?_
   have q:y≠x:=by rintro rfl;rw[e]at hy;refine Or.elim hy (λhy=>?_) λhy=>?_<;>cases hy
   exact⟨c,B,N,a,(hs.2 c (F.dis y c a)).trans i,l,by rw[upd,bz q];exact L.mono (cc _) h.im⟩
  ·by_cases q:b=env.locals
   ·exact i6 G λo2 X X g X=>rwL q ⟨o2,g⟩
   ·exact xE (F.alv b D) λo2 g=>⟨o2,(hs.2 b q).trans g⟩
 ·refine d5 (F.cl x (.inl e)) λc o N a i l L=>?_
  have f: ¬aY o:=by delta aY;exact rwL l id
  refine wpAny_storeName_cell F.fn e a ⟨o,i,l⟩ (λh' t hs=>?_)
  have J:=F.own c (.inr ⟨x,a⟩)
  have h:=dU hs i f
  refine k _ (S.side hs i f J.1 J.2) (.side hs i f (r c a) (xEA t λo2 g X=>⟨o2,g⟩)) ⟨F.fn,F.gl,F.bi,?_,λy hy=>?_,F.own,F.dis,F.inj,λb D=>?_⟩
  ·refine xEA F.ns λm d w=>⟨m,d.sameBut hs (Ne.symm (F.dis x c a)),λy hy=>?_⟩
   have q:y≠x:=by rintro rfl;cases (e▸hy)
   rw[upd,bz q];exact(w y hy).mono (cc _) h.im
  ·by_cases q:y=x
   ·exact xEA t λo2 j I=>⟨c,o2,am u,q▸a,j,I,by rw[upd,ca q];exact rv.mono (cc _) h.im⟩
   ·exact d5 (F.cl y hy) λc' B p j I Q O=>⟨c',B,p,j,(hs.2 c' (λz=>q (F.inj y x c' j (z▸a)))).trans I,Q,by rw[upd,bz q];exact O.mono (cc _) h.im⟩
  ·by_cases q:b=c
   ·exact xEA t λo2 g X=>rwL q ⟨o2,g⟩
   ·exact xE (F.alv b D) λo2 g=>⟨o2,(hs.2 b q).trans g⟩
theorem uL(a:env.kindOf x=am .local\/env.kindOf x=am .cell):(env.kindOf x=am .local/\Wr env env.locals)\/(env.kindOf x=am .cell/\∀ c,env.cells.lookup x=am c->Wr env c):=a.imp (λh=>⟨h,.inl rfl⟩) λh=>⟨h,λq e=>.inr ⟨_,e⟩⟩
def sK(fl:Fl):SF:=λlo H Q=>Q fl lo H
theorem SV.pass{pos}:SV C r env (.Pass pos) (sK .next):=λa a a a a a a S F q=>wpAny_Pass ⟨S,.refl,F,.next,q⟩
theorem SV.brk{pos}:SV C r env (.Break pos) (sK .brk):=λa a a a a a a S F q=>wpAny_Break ⟨S,.refl,F,.brk,q⟩
theorem SV.cont{pos}:SV C r env (.Continue pos) (sK .cont):=λa a a a a a a S F q=>wpAny_Continue ⟨S,.refl,F,.cont,q⟩
def dQ(f:EF):SF:=λlo H Q=>f lo H λv H1=>Q (.ret v) lo H1
theorem SV.ret{pos}(h:EV C r env e f):SV C r env (.Return (am e) pos) (dQ f):=λd d d d d d c S F q=>wpAny_Return_some (h.run c S F q λS1 a b q=>⟨S1,a.wr,F.nx a,.ret b,q⟩)
theorem SV.ret0{pos}:SV C r env (.Return ba pos) (sK (.ret .none)):=λa a a a a a a S F q=>wpAny_Return_none ⟨S,.refl,F,.ret .none,q⟩
def aV(x:Str)(f:EF):SF:=λlo H Q=>f lo H λv H1=>Q .next (upd lo x v) H1
theorem SV.assign{pos}{pos'}(h:EV C r env e f)(d:env.kindOf x=am .local\/env.kindOf x=am .cell)(hs:sb e (am (.Name x pos')) pos.line env=pure false):SV C r env (.Assign [.Name x pos'] e pos) (aV x f):=λj j j j j j i S F q=>wpAny_Assign_Name (h.run i S F q λS1 a c q=>hI S1 (F.nx a) c (uL d) λj S2 g b=>⟨S2,a.wr.trans g,b,.next,q⟩) hs
def sIf(t:TF)(f g:SF):SF:=λlo H Q=>t lo H λb H1=>bif b then f lo H1 Q else g lo H1 Q
theorem SV.ite{pos}(j:TV C r env t e)(h1:SVs C r env d f)(h2:SVs C r env h g):SV C r env (.If t d h pos) (sIf e f g):=λk k k k k k c S F q=>wpAny_If (j.run c S F q λ{b k k k} i a q=>match b,q with
  |true,q=>wmN (h1 c i (F.nx a) q) λk k p=>p.from a.wr
  |false,q=>wmN (h2 c i (F.nx a) q) λk k p=>p.from a.wr)
def bW(g:SF)(Q:SK):SK:=λfl lo H=>match fl with | .next=>g lo H Q |fl=>Q fl lo H
def aB(f g:SF):SF:=λlo H Q=>f lo H (bW g Q)
theorem SVs.nil:SVs C r env [] (sK .next):=λa a a a a a a S F q=>uh ⟨S,.refl,F,.next,q⟩
theorem SVs.cons{st:jg}{a:aq jg}(h:SV C r env st f)(hs:SVs C r env a g):SVs C r env (st::a) (aB f g):=by
 intro A s ρ H lo Q i S F q
 rw[execs_cons]
 refine zzB (wmN (h i S F q) λfw s1 p=>?_)
 obtain⟨d,b,c,e,q⟩:=p
 cases e with
 |next=>exact wmN (hs i d c q) λj j p=>p.from b
 |brk=>exact zzP ⟨d,b,c,.brk,q⟩
 |cont=>exact zzP ⟨d,b,c,.cont,q⟩
 |ret e=>exact zzP ⟨d,b,c,.ret e,q⟩
theorem Sim.ext(S:Sim C H ρ s)(a:∀ b o,s.heap.get? b=am o->h'.get? b=am o):Sim C H ρ {s with heap:=h',toks:=k}:=S.same (λb o e q=>a b o e) (dM a).im (λq q e=>e) rfl S.bare
theorem Nx.ext(a:∀ b o,s.heap.get? b=am o->h'.get? b=am o):Nx ρ W s ρ {s with heap:=h',toks:=k}:=⟨cc _,λl c=>by simp at c,λb o e q q=>a b o e,(dM a).im,λb o e=>⟨o,a b o e⟩⟩
theorem xR(e:Heap.ExtBut h.objs.size h h'):∀ b o,h.get? b=am o->h'.get? b=am o:=λb o q=>e b o (md (Heap.lt_size q)) q
def at_(k:Int)(vs:aq V):bc V:=if-1000000<k/\k<1000000 then(jt k vs.length).bind λj=>vs[j]? else ba
def V.tp:V->bc (aq V) | .tup vs=>am vs |_=>Option.none
def aG:OpF:=λa b H=>(Ti b).bind λk=>(match a.tp with |some vs=>at_ k vs |none=>(lst H a).bind (at_ k)).map λv=>(v,H)
set_option tactic.hygienic true in
theorem wX(h:jt k n=am j):(0<=k/\j=k.toNat/\j<n)\/(k<0/\ -(n:Int)<=k/\j=(k+n).toNat/\j<n):=by
 unfold jt at h
 by_cases q:k<0
 ·simp only[q,vx]at h
  split at h
  ·rename_i g;refine cxS h ?_;simp at g;right;exact A5 g
  ·cases h
 ·simp only[q,pg]at h
  split at h
  ·rename_i g;refine cxS h ?_;simp at g;left;exact A6 g
  ·cases h
set_option tactic.hygienic true in
theorem aAy{P:Prop}(e:at_ k vs=am v)(h:∀ j,-1000000<k->k<1000000->jt k vs.length=am j->vs[j]? =am v->P):P:=by
 unfold at_ at e
 split at e
 ·rename_i a
  exact xEA (bn.mp e) λj b c=>h j a.1 a.2 b c
 ·first |exact aE e |cases e
theorem VR.toTup(r:VR ρ h u v)(e:v.tp=am vs):∃ a xs n,v= .tup vs/\u= .ref a/\h.get? a=am {cls:=.type "tuple",data:=.seq xs n}/\¬mS ρ a/\VRs ρ h xs.toList vs:=by
 cases v with
 |tup ws=>exact cxS e (d5 r.inv λa xs n b d c f=>⟨a,xs,n,rfl,b,d,c,f⟩)
 |_=>first |exact aE e |cases e
set_option tactic.hygienic true in
theorem qC{a b:bt}(S:Sim C H ρ s)(ra:VR ρ s.heap a y)(rb:VR ρ s.heap b w)(e:aG y w H=am (v,H')):H'=H/\∃ x,VR ρ s.heap x v/\(∀ Q:bt->bo->Prop,Q x s->bw C.M A (qw a b) Q NoE s)/\∃ T id,s.TypeIs a T/\g4 (.type T) "__getitem__" =pure (am (.builtin id)):=by
 refine xEA (bn.mp e) λk F u=>xEA (dy.mp u) λw m B=>?_
 clear e u
 cases B
 refine VR.ti (P:=λb=>H=H/\∃ x,VR ρ s.heap x v/\(∀ Q:bt->bo->Prop,Q x s->bw C.M A (qw a b) Q NoE s)/\∃ T id,s.TypeIs a T/\g4 (.type T) "__getitem__" =pure (am (.builtin id))) rb F λt=>⟨rfl,?_⟩
 split at m
 ·rename_i vs h
  obtain⟨J,D,n,_,j,g,_,rs⟩:=ra.toTup h;subst j
  exact aAy m λj t d l k=>xEA (rs.get k) λx c f=>⟨x,f,λQ q=>(PyProof.Rows.getItem_tuple ⟨_,g,rfl,_,rfl⟩ (by omega) (by omega) (by exact rwL rs.sz l) (by simpa using c) q),"tuple",_,⟨_,g,rfl⟩,pq.lookup⟩
 ·refine xEA (bn.mp m) λvs E z=>bM (b6 S ra E) λad D o d p=>rwL o ?_
  refine aAy z λj I G l k=>xEA (p.get k) λx c f=>⟨x,f,λQ q=>?_,"list",_,d.typeIs,slot_list_getitem.lookup⟩
  rcases wX l with ⟨i,rfl,r⟩ |⟨i,t,rfl,r⟩
  ·exact wpAny_getItem_list d i (by omega) (by simpa using c) q
  ·exact wpAny_getItem_list_neg d i (A7 p.sz t) (by omega) (by rw[p.sz];simpa using c) q
theorem EV.idx{b a:Expr}(h1:EV C r env b f1)(h2:EV C r env a f2)(hs:∀ o i,∃ ops,subscripted a false o i=operate ops (qw o i)):EV C r env (.Subscript b a pos) (aA aG f1 f2):=λn n n n n n m S F q=>Subscript_ (EV.two h1 h2 m S F q λ{x y s2 n n n n} S2 l c k q=>q.elim λp e q=>by
  obtain⟨f,z,g,h,T,id,hT,d⟩:=qC S2 c k e
  exact xE (hs x y) λops j=>tail_any hT d (h _ ⟨S2,l,g,f▸q⟩) j)
noncomputable abbrev AF:=V->Lo->MH->(Lo->MH->Prop)->Prop
def AVW(C:Cx)(W:Env->d3->Prop)(r:Nat)(env:Env)(t:Expr)(f:AF):Prop:=∀ ⦃A:fq⦄⦃s:bo⦄⦃ρ:aq Lc⦄⦃H:MH⦄⦃lo:Lo⦄⦃u:bt⦄⦃v:V⦄⦃Q:Lo->MH->Prop⦄,Room r A->Sim C H ρ s->Fm C env ρ s lo->VR ρ s.heap u v->f v lo H Q->
  bw C.M A (vm t env u) (eV C env (W env) ρ s Q) NoE s
noncomputable abbrev AV(C:Cx)(r:Nat)(env:Env)(t:Expr)(f:AF):Prop:=AVW C Wr r env t f
def aN(x:Str):AF:=λv lo H Q=>Q (upd lo x v) H
theorem AV.name{pos}(a:env.kindOf x=am .local\/env.kindOf x=am .cell):AV C r env (.Name x pos) (aN x):=λb b b b b b b b b S F rv q=>sy (hI S F rv (uL a) λb S N F=>⟨S,N,F,q⟩)
noncomputable abbrev AFs:=aq V->Lo->MH->(Lo->MH->Prop)->Prop
def qU(C:Cx)(W:Env->d3->Prop)(r:Nat)(env:Env)(ts:aq Expr)(f:AFs):Prop:=∀ ⦃A:fq⦄⦃s:bo⦄⦃ρ:aq Lc⦄⦃H:MH⦄⦃lo:Lo⦄⦃us:aq bt⦄⦃vs:aq V⦄⦃Q:Lo->MH->Prop⦄,Room r A->Sim C H ρ s->Fm C env ρ s lo->VRs ρ s.heap us vs->f vs lo H Q->
  bw C.M A (qx ((gj ts env).map (·.2)) us) (eV C env (W env) ρ s Q) NoE s
noncomputable abbrev AVs(C:Cx)(r:Nat)(env:Env)(ts:aq Expr)(f:AFs):Prop:=qU C Wr r env ts f
def asN:AFs:=λvs lo H Q=>match vs with | []=>Q lo H |_=>f7
def asC(f:AF)(g:AFs):AFs:=λvs lo H Q=>match vs with
 |v::vs=>f v lo H λlo1 H1=>g vs lo1 H1 Q
 | []=>f7
theorem qU.nil:qU C W r env [] asN:=by
 intro A s ρ H lo b vs Q a S F rv e
 cases rv with
 |nil=>exact zzP ⟨S,.refl,F,e⟩
 |cons _ _=>exact e.elim
set_option tactic.hygienic true in
theorem qU.cons(h:AVW C W r env t f)(hs:qU C W r env c g)(k:gj (t::c) env=(false,vm t env)::gj c env):qU C W r env (t::c) (asC f g):=by
 intro A s ρ H lo j vs Q i S F rv e
 cases rv with
 |nil=>exact e.elim
 |cons a b=>
  rename_i u j v vs
  exact rwL k (zzB (bx (eV.run (α:=uq) (h i S F a e) λS1 d l q=>wmN (hs i S1 l (b.nx d) q) λm m p=>p.from d)))
theorem rY{a:jf bt}(j:t≠it):∀ (n i:Nat) (s:bo) (Q:aq bt->bo->Prop),s.heap.IsListIter it t i->s.heap.IsList t a->i+n<=a.size-> (∀ h',h'.IsListIter it t (i+n)->Heap.SameBut it s.heap h'->Q ((a.toList.drop i).take n) {s with heap:=h'})->bw (ir prog w) A (draw (.ref it) n) Q E s:=λl=>by
 induction l with
 |zero=>
  exact λi s Q e q q k=>(zzP (by simpa using k s.heap e (Heap.SameBut.refl ..)):bw _ _ (pure []) Q E s)
 |succ n o=>
  intro i s Q e m g k
  have h:=Y3 g
  refine zzB (qa e m (x:=a[i]) (by simp [h]) λh₁ d b=>(zzB (bx (o (i+1) _ _ d (m.extBut b.extBut j) (zzM1 0x16aa41f6800002a07da40a00007 [i,n,a.size] ⋯ g) λh₂ c f=>zzP ?_))))
  have:=k h₂ (by exact rwL (show i+(n+1)=i+1+n by exact (zzM0 0x16907da00001f69028001 [i,n] ⋯)) c) (b.trans f)
  rw[(by simp [List.drop_eq_getElem_cons,h]:a.toList.drop i=a[i]::a.toList.drop (i+1)),List.take_succ_cons]at this
  exact this
theorem wH{x1}{a:jf bt}(q:A.handled=ba)(k:s.heap.IsList t a)(p:(gj c env).length=a.size)(g:(gj c env).findIdx? (·.1)=ba)(h:∀ h',Heap.ExtBut s.heap.objs.size s.heap h'->bw (ir prog w) A (qx ((gj c env).map (·.2)) a.toList) Q E {s with heap:=h'}):
  bw (ir prog w) A (vm (.Tuple c x1 pos) env (.ref t)) Q E s:=by
 rw[PyProof.Rows.assign_Tuple]
 refine zzB (f5 ?_)
 delta unpack
 exact rwL p (rwL g (zzB (bx ((by
  have l:t≠s.heap.objs.size:=by refine xEA k λo n r=>?_;exact md (Heap.lt_size n)
  delta unpackItems
  refine zzB ?_
  delta notIterableAtAll
  refine zzB (pn k.typeIs slot_list_iter.lookup (zzP (zzB (bx (qb k (zzB (bx (rY l a.size 0 _ _ ⟨_,Heap.get?_push_size _ rfl,rfl,rfl⟩ (k.push _) (zzM0 0x1a2803d000 [a.size] ⋯) λh₁ f d=>?_))))))))
  have j:List.take a.size (List.drop 0 a.toList)=a.toList:=by
   exact rwL List.drop_zero (og (by simp))
  refine rwL j (rwL (bz (by simp)) (zzB (bx (um q f ((k.push _).extBut d.extBut l) (by simp) λh₂ i=>(zzP (h h₂ λb o m e=>i b o m (d.extBut b o m (Heap.get?_push_of_some _ e)))))))))))))
def V.sq(H:MH):V->bc (aq V) | .tup vs=>am vs | .ref i=>lst H (.ref i) |_=>Option.none
def uF(n:Nat)(g:AFs):AF:=λv lo H Q=>Lf (v.sq H) λvs=>vs.length=n/\g vs lo H Q
theorem AVW.tuple{pos}(h:qU C W r env m g)(q:(gj m env).length=n)(b:(gj m env).findIdx? (·.1)=ba):AVW C W r env (.Tuple m k pos) (uF n g):=λA s ρ H lo u v Q j S F rv e=>e.elim λvs l f=>by
  cases v with
  |tup ws=>
   refine cyS l λzq=>?_;subst zq
   obtain⟨a,t,w,_,d,gt,_,rs⟩:=rv.toTup rfl;subst d
   refine assign_Tuple_tuple j.1 ⟨_,gt,rfl,_,rfl⟩ (by exact rwL q (rwL rs.sz f.1.symm)) b λh' o=>?_
   have c:=xR o
   exact wmN (h j (S.ext c) (F.nx (.ext c)) (rs.mono (cc _) (dM c).im) f.2) λx x p=>p.from (.ext c)
  |ref i=>
   refine bM (b6 S rv l) λa t d gt rs=>?_;subst d
   refine wH j.1 gt (by exact rwL q (rwL rs.sz f.1.symm)) b λh' o=>?_
   have c:=xR o
   exact wmN (h j (S.ext c) (F.nx (.ext c)) (rs.mono (cc _) (dM c).im) f.2) λx x p=>p.from (.ext c)
  |_=>first |exact aE l |cases l
structure NxI(ρ:aq Lc)(X:d3->Prop)(s:bo)(ρ':aq Lc)(s':bo):Prop where
 pre:ρ<+:ρ'
 new:∀ l∈ρ'.drop ρ.length,s.heap.get? l.a=ba/\s.heap.get? l.d=ba
 kp:∀ b o,s.heap.get? b=am o->¬Own ρ b->¬X b->s'.heap.get? b=am o
 imm:Im ρ ρ' s.heap s'.heap
 al:∀ b o,s.heap.get? b=am o->¬X b->∃ o',s'.heap.get? b=am o'
noncomputable abbrev NK(σ:Type):=bc (V×σ)->MH->Prop
inductive l7(C:Cx){σ:Type}(mid:aq Lc->bo->σ->bt->bt->(d3->Prop)->Prop)(ρ:aq Lc)(s:bo)(X:d3->Prop)(x:bt)(Q:NK σ):bc bt->bo->Prop
 |done {s' ρ' H'} (S:Sim C H' ρ' s') (I:NxI ρ X s ρ' s') (q:Q ba H'):l7 C mid ρ s X x Q ba s'
 |item {s' ρ' H' v it' u} (S:Sim C H' ρ' s') (I:NxI ρ X s ρ' s') (r:VR ρ' s'.heap u v) (m:mid ρ' s' it' u x X) (q:Q (am (v,it')) H'):l7 C mid ρ s X x Q (am u) s'
structure ItK(C:Cx) where
 σ:Type
 nx:σ->MH->NK σ->Prop
 rel:aq Lc->bo->σ->bt->(d3->Prop)->Prop
 mid:aq Lc->bo->σ->bt->bt->(d3->Prop)->Prop
 tg:Expr->Prop
 need:Nat
 mono:∀ {ρ ρ' s s' it x X},rel ρ s it x X->ρ<+:ρ'->Im ρ ρ' s.heap s'.heap->(∀ b o,X b->s.heap.get? b=am o->s'.heap.get? b=am o)->rel ρ' s' it x X
 alive:∀ {ρ s it x X},rel ρ s it x X->∀ b,X b->∃ o,s.heap.get? b=am o
 next:∀ {A:fq}{s ρ H it x X}{Q:NK σ}{r:Nat},need<=r->Room r A->Sim C H ρ s->rel ρ s it x X->(∀ b,X b->¬Own ρ b/\C.base.heap.get? b=ba)->nx it H Q->
  bw C.M A (nr x) (l7 C mid ρ s X x Q) NoE s
 lgo:∀ {A:fq}{s ρ H it x X u}{target:Expr}{r:Nat},Room r A->Sim C H ρ s->mid ρ s it u x X->tg target->(∀ b,X b->¬Own ρ b/\C.base.heap.get? b=ba)->
  bw C.M A (ui target x u) (λq s'=>Sim C H ρ s'/\NxI ρ X s ρ s'/\rel ρ s' it x X) NoE s
noncomputable abbrev IF(K:ItK C):=Lo->MH->(K.σ->MH->Prop)->Prop
inductive yP(K:ItK C)(ρ:aq Lc)(s:bo)(Q:K.σ->MH->Prop)(y:bt)(s2:bo):Prop
 |mk {ρ':aq Lc}{X:d3->Prop}{it:K.σ}{H':MH} (S:Sim C H' ρ' s2) (N:Nx ρ noW s ρ' s2) (R:K.rel ρ' s2 it y X) (hX:∀ b,X b->s.heap.get? b=ba/\¬Own ρ' b/\C.base.heap.get? b=ba) (q:Q it H'):yP K ρ s Q y s2
def IV(K:ItK C)(r:Nat)(env:Env)(e:Expr)(f:IF K):Prop:=∀ ⦃A:fq⦄⦃s:bo⦄⦃ρ:aq Lc⦄⦃H:MH⦄⦃lo:Lo⦄⦃Q:K.σ->MH->Prop⦄,Room r A->Sim C H ρ s->Fm C env ρ s lo->f lo H Q->
  bw C.M A (jc e env) (λx s1=>bw C.M A (vn x) (yP K ρ s Q) NoE s1) NoE s
theorem fC(S:Sim C H ρ s){b:d3}(h:s.heap.get? b=ba): ¬Own ρ b:=rQ (l:=⟨b,b,ba⟩) S h h (.inl rfl)
theorem eA(S:Sim C H ρ s){b:d3}(h:s.heap.get? b=ba):C.base.heap.get? b=ba:=k8 S h
theorem Sim.iterStep{a:d3}(S:Sim C H ρ s)(c:∀ b o,b≠a->s.heap.get? b=am o->h'.get? b=am o)(h:∀ o,s.heap.get? a=am o->¬aY o)(j: ¬Own ρ a)(g:C.base.heap.get? a=ba):Sim C H ρ {s with heap:=h'}/\NxI ρ (λb=>b=a) s ρ {s with heap:=h'}:=by
 have d:Imm s.heap h':=λb o e i=>by
  by_cases q:b=a
  ·subst q;exact bv i (h o e)
  ·exact c b o q e
 refine⟨S.same (λb o e q=>c b o ?_ e) d.im (λk k e=>e) rfl S.bare,⟨cc _,λl f=>by simp at f,λb o e k q=>c b o q e,d.im,λb o e q=>⟨o,c b o q e⟩⟩⟩
 rintro rfl
 refine Or.elim q (λq=>(j q)) λq=>?_
 ·cases (g▸q)
theorem NxI.refl:NxI ρ X s ρ s:=⟨cc _,λl a=>by simp at a,λq q e q q=>e,.refl _ _,λq o e q=>⟨o,e⟩⟩
def pV:aq qp:=["enumerate","zip","dict_itemiterator","dict_reverseitemiterator","odict_iterator","itertools.zip_longest","itertools.pairwise"]
theorem jZ{a:d3}(e:s.heap.get? a=am o)(d:o.cls= .type T)(hT:pV.contains T=false)(h:Q () s):bw M A (ui target (.ref a) u) Q E s:=by
 have c:bw M A (do
   let (.ref r,.ref b):=(Value.ref a,u) |return
   let o<-load r
   match o.cls,o.data with
   | .type n,.fields vs=>
    if ["enumerate","zip","dict_itemiterator","dict_reverseitemiterator","odict_iterator","itertools.zip_longest","itertools.pairwise"].contains n && vs[0]? ==am (rawInt b) then
     rule "for.unpacks-the-owned-tuple"
     updateField r 0 .none
   |_,_=>pure ():Sem uq) Q E s:=by
  cases u with
  |ref b=>
   refine zzB (wpAny_load e (rwL d ?_))
   cases o.data<;>first |exact zzP h | (dsimp only;exact rwL hT (zzP h))
  |_=>exact zzP h
 cases target<;>first |exact zzP h |exact c
theorem cP{a:aq Lc}(g:Nx ρ noW s a s1)(e:Sim C H1 a s1){b:d3}(c:s1.heap.get? b=ba):s.heap.get? b=ba/\¬Own a b/\C.base.heap.get? b=ba:=by
 refine⟨?_,fC e c,eA e c⟩
 cases f:s.heap.get? b with
 |none=>rfl
 |some o=>refine xE (g.al _ _ f) λo' d=>?_;cases (c▸d)
structure ItP(C:Cx)(σ:Type) where
 nx:σ->MH->bc (bc (V×σ))
 rel:aq Lc->bo->σ->d3->Prop
 T:qp
 own:pV.contains T=false
 mono:∀ {ρ ρ' s s' it a},rel ρ s it a->ρ<+:ρ'->Im ρ ρ' s.heap s'.heap->(∀ o,s.heap.get? a=am o->s'.heap.get? a=am o)->rel ρ' s' it a
 obj:∀ {ρ s it a},rel ρ s it a->∃ o,s.heap.get? a=am o/\o.cls= .type T/\¬aY o
 item:∀ {A:fq}{s ρ H it a v it'}{Q:bc bt->bo->Prop},A.handled=ba->Sim C H ρ s->rel ρ s it a->nx it H=am (am (v,it'))->
  (∀ u h' k,Heap.SameBut a s.heap h'->VR ρ s.heap u v->(∀ s':bo,s'.heap=h'->Im ρ ρ s.heap h'->rel ρ s' it' a)->Q (am u) {s with heap:=h',toks:=k})->bw C.M A (nr (.ref a)) Q NoE s
 fin:∀ {A:fq}{s ρ H it a}{Q:bc bt->bo->Prop},A.handled=ba->Sim C H ρ s->rel ρ s it a->nx it H=am ba->
  (∀ h',Heap.ExtBut a s.heap h'->Q ba {s with heap:=h'})->bw C.M A (nr (.ref a)) Q NoE s
theorem Sim.iterK{a:d3}(S:Sim C H ρ s)(f:∀ b o,b≠a->s.heap.get? b=am o->h'.get? b=am o)(c:∀ o,s.heap.get? a=am o->¬aY o)(e: ¬Own ρ a)(d:C.base.heap.get? a=ba):Sim C H ρ {s with heap:=h',toks:=k}/\NxI ρ (λb=>b=a) s ρ {s with heap:=h',toks:=k}:=xA (S.iterStep f c e d) λS' I=>⟨S'.toks k,⟨I.pre,I.new,I.kp,I.imm,I.al⟩⟩
def ItP.it(P:ItP C σ):ItK C where
 σ:=σ
 nx:=λit H Q=>Lf (P.nx it H) λy=>Q y H
 rel:=λρ s it x X=>∃ a,x= .ref a/\X=(λb=>b=a)/\P.rel ρ s it a
 mid:=λρ s it u x X=>∃ a,x= .ref a/\X=(λb=>b=a)/\P.rel ρ s it a
 tg:=λc=>qm
 need:=0
 mono:=λh e i hk=>c6 h λa hx hX h=>⟨a,hx,hX,P.mono h e i λo q=>hk a o (hX▸rfl) q⟩
 alive:=λz b hb=>c6 z λa c hX h=>by clear z;subst hX;subst hb;refine xEA (P.obj h) λo ho c=>?_;exact⟨o,ho⟩
 next:=by
  rintro A s ρ H it x X Q r _ hr S ⟨a,rfl,rfl,h⟩ hX e
  refine c6 (P.obj h) λo ho hc hi=>?_
  have hi':∀ o,s.heap.get? a=am o->¬aY o:=λo' e'=>by rw[ho]at e';cases e';exact hi
  have hXa:=hX a rfl
  refine e.elim λy ey q=>?_
  cases y with
  |some p=>
   refine P.item hr.1 S h ey λu h' k hs ru hrel=>?_
   refine xA (S.iterK (h':=h') (k:=k) (λb o hb e=>by rw[hs.2 b hb];exact e) hi' hXa.1 hXa.2) λS' I=>?_
   exact .item S' I (ru.mono (cc _) I.imm) ⟨a,rfl,rfl,hrel _ rfl I.imm⟩ q
  |none=>
   refine P.fin hr.1 S h ey λh' he=>?_
   refine xA (S.iterK (h':=h') (k:=s.toks) (λb o hb e=>he b o hb e) hi' hXa.1 hXa.2) λS' I=>?_
   exact .done S' I q
 lgo:=by
  rintro A s ρ H it x X u target r hr S ⟨a,rfl,rfl,h⟩ _ hX
  refine c6 (P.obj h) λo ho hc hi=>?_
  exact jZ ho hc P.own ⟨S,.refl,a,rfl,rfl,h⟩
def pList(C:Cx):ItP C (Nat×Nat) where
 nx:=λit H=>(lst H (.ref it.1)).map λvs=>(vs[it.2]?).map λv=>(v,(it.1,it.2+1))
 rel:=λρ s it a=>∃ l,ρ[it.1]? =am l/\s.heap.IsListIter a l.a it.2
 T:="list_iterator"
 own:=by decide
 mono:=λh e i hk=>xEA h λl h1 h=>xEA h λo h2 h3=>⟨l,aR e h1,o,hk o h2,h3⟩
 obj:=λh=>xEA h λl h1 h=>c6 h λo h2 h3 h4=>⟨o,h2,h3,by unfold aY;rw[h4];simp [h3]⟩
 item:=λhh S R e k=>by
  refine xEA R λl h1 hit=>?_
  refine xEA (dy.mp e) λvs hl e=>?_
  refine xEA (dy.mp e) λv hv e=>?_
  cases e
  refine bM (b6 S (.ref h1) hl) λad xs q1 q2 q3=>?_
  cases q1
  refine xEA (q3.get hv) λu hu ru=>?_
  exact qa hit q2 (by simpa using hu) λh' hit2 hs=>k u h' _ hs ru λs' hs' q=>⟨l,h1,hs'▸hit2⟩
 fin:=λhh S R e k=>by
  refine xEA R λl h1 hit=>?_
  refine xEA (dy.mp e) λvs hl e=>?_
  refine bM (b6 S (.ref h1) hl) λad xs q1 q2 q3=>?_
  cases q1
  exact um hh hit q2 (Array.getElem?_eq_none (by rw[q3.sz];exact getElem?_eq_none_iff.mp (Option.map_eq_none_iff.mp e))) λh' he=>k h' he
noncomputable abbrev bB(C:Cx):ItK C:=(pList C).it
def iL(f:EF):Lo->MH->(Nat×Nat->MH->Prop)->Prop:=λlo H Q=>f lo H λv H1=>Lf v.rf λi=>(∃ vs,lst H1 (.ref i)=am vs)/\Q (i,0) H1
theorem IV.list(h:EV C r env e f):IV (bB C) r env e (iL f):=λs s s s s s n S F q=>h.run n S F q λS1 d r1 q=>q.elim λi j q=>by
  refine c6 (r1.toRef j) λl a c g=>?_;subst a;subst c
  refine xA q λz30 q=>?_;obtain⟨vs,i⟩:=z30
  refine bM (b6 S1 r1 i) λad p e k o=>?_
  cases e
  exact qb k ⟨S1.push _,d.trans (.push _),⟨_,rfl,rfl,l,g,_,Heap.get?_push_size _ rfl,rfl,rfl⟩,λb m=>by exact rwL (show b=_ from m) (cP d S1 (aU _)),q⟩
def vM(again:Lo->MH->SK->Prop)(Q:SK):SK:=λfl lo H=>match fl with | .next=>again lo H Q | .cont=>again lo H Q | .brk=>Q .next lo H | .ret v=>Q (.ret v) lo H
def dK(K:ItK C)(tgt:AF)(body:SF):Nat->K.σ->Lo->MH->SK->Prop
 |0,_,_,_,_=>f7
 |n+1,it,lo,H,Q=>K.nx it H λres H1=>match res with
  |none=>Q .next lo H1
  |some p=>tgt p.1 lo H1 λlo1 H2=>body lo1 H2 (vM (dK K tgt body n p.2) Q)
def aAz(C:Cx)(env:Env)(ρ0:aq Lc)(s0:bo)(Q:SK):qZ->bo->Prop
 | .ok f,s'=>nK C env ρ0 s0 Q f s'
 | .error _,_=>f7
theorem Nx.stepI(N:Nx ρ0 W f ρ s)(I:NxI ρ X s g s')(m:∀ b,X b->f.heap.get? b=ba):Nx ρ0 W f g s':=by
 have nX:∀ {b:d3}{o:Obj},f.heap.get? b=am o->¬X b:=λe q=>by rw[m _ q]at e;cases e
 refine⟨N.pre.trans I.pre,λl j=>(xE N.pre λt h=>?_),λb o e k p=>I.kp b o (N.kp b o e k p) (N.own e k) (nX e),N.imm.trans I.imm,λb o e=>xE (N.al b o e) λo' c=>I.al b o' c (nX e)⟩;subst h
 refine xE I.pre λt' i=>?_;subst i
 rw[dt,nO]at j
 refine Or.elim (e7.mp j) (λq=>(N.new l (by simpa using q))) λq=>?_
 ·have n:=I.new l (by simpa using q)
  refine⟨?_,?_⟩
  ·cases e:f.heap.get? l.a with
   |none=>rfl
   |some o=>refine xE (N.al _ _ e) λo' c=>?_;rw[n.1]at c;cases c
  ·cases e:f.heap.get? l.d with
   |none=>rfl
   |some o=>refine xE (N.al _ _ e) λo' c=>?_;rw[n.2]at c;cases c
theorem Fm.nextI(F:Fm C env ρ s lo)(N:NxI ρ X s d s')(z:∀ b,Wr env b->¬X b):Fm C env d s' lo:=by
 refine xEA F.ns λm g y=>?_;obtain⟨o,D,r,p,t⟩:=g
 have k:=λb o a e=>N.kp b o e (F.own b a).1 (z b a)
 have own:∀ {b:d3}{o:Obj},s.heap.get? b=am o->¬Own ρ b->¬Own d b:=by
  rintro b o a h ⟨l,v,n⟩
  refine xE N.pre λt f=>?_;subst f
  refine Or.elim (e7.mp v) (λq=>(h ⟨l,q,n⟩)) λq=>?_
  ·have:=N.new l (by simpa using q)
   rcases n with rfl |rfl
   ·rw[this.1]at a;cases a
   ·rw[this.2]at a;cases a
 exact⟨F.fn,F.gl,F.bi,⟨m,⟨o,D,r,k _ _ (.inl rfl) p,t⟩,λx i=>(y x i).mono N.pre N.imm⟩,λx i=>(d5 (F.cl x i) λc o u j A B w=>⟨c,o,u,j,k _ _ (.inr ⟨x,j⟩) A,B,w.mono N.pre N.imm⟩),λb a=>⟨(xE (F.alv b a) λo e=>own e (F.own b a).1),(F.own b a).2⟩,F.dis,F.inj,λb a=>xE (F.alv b a) λo e=>⟨o,k b o a e⟩⟩
theorem NxI.owns{a:aq Lc}(I:NxI ρ X s a s'){b:d3}(c:s.heap.get? b=am o)(h: ¬Own ρ b): ¬Own a b:=by
 rintro ⟨l,f,e⟩
 refine xE I.pre λt d=>?_;subst d
 refine Or.elim (e7.mp f) (λz=>(h ⟨l,z,e⟩)) λz=>?_
 ·have:=I.new l (by simpa using z)
  rcases e with rfl |rfl
  ·rw[this.1]at c;cases c
  ·rw[this.2]at c;cases c
def Apart(C:Cx)(env:Env)(ρ:aq Lc)(s0:bo)(X:d3->Prop):Prop:=∀ b,X b->s0.heap.get? b=ba/\¬Own ρ b/\C.base.heap.get? b=ba/\¬Wr env b
theorem Apart.two{a:bo}(h:Apart C env ρ a X):∀ b,X b->¬Own ρ b/\C.base.heap.get? b=ba:=λb q=>⟨(h b q).2.1,(h b q).2.2.1⟩
theorem vY{K:ItK C}(O:AV C r env target tgt)(T:SVs C r env body u)(m:K.tg target/\K.need<=r):∀ (n:Nat){A:fq}{h s:bo}{ρ0 ρ:aq Lc}{H:MH}{lo:Lo}{it:K.σ}{x:bt}{X:d3->Prop}{Q:SK},Room r A->Nx ρ0 (Wr env) h ρ s->Sim C H ρ s->Fm C env ρ s lo-> K.rel ρ s it x X->Apart C env ρ h X->dK K tgt u n it lo H Q->lz C.M A (.forLoop target x body [] env) (aAz C env ρ0 h Q) s:=λl=>by
 induction l with
 |zero=>
  intro _ _ _ _ _ _ _ _ _ _ _ _ _ _ _ _ _ e
  exact e.elim
 |succ n V=>
  intro A h s ρ0 ρ H lo it x X Q i N S F R a e
  refine ny (rwL (Around.under_of_weight rfl rfl) (lu (f4 (E:=NoE) ?_ (λY Y z=>z) (λY Y z=>z.elim))))
  delta forTurn
  refine zzB (f5 (zzB (lu (wmN (K.next m.2 i S R a.two e) λo s1 p=>?_))))
  cases p with
  |done w g q=>
   exact zzP ⟨rfl,ny (rwL (Around.under_of_weight rfl rfl) (zzB (lu (uh (zzP ⟨w,N.stepI g (λb q=>(a b q).1),F.nextI g (λb k q=>(a b q).2.2.2 k),.next,q⟩)))))⟩
  |item w g J L q=>
   have d:Apart C env _ h X:=λb q=>xE (K.alive R b q) λo' j=>⟨(a b q).1,g.owns j (a b q).2.1,(a b q).2.2⟩
   refine zzB (wmN (K.lgo i w L m.1 d.two) λY s2 p=>(xAA p λS2 t G=>zzB (eV.run (α:=uq) (O i S2 ((F.nextI g (λb k q=>(a b q).2.2.2 k)).nextI t (λb k q=>(d b q).2.2.2 k)) (J.mono t.pre t.imm) q) λS3 I P q=>zzB (wmN (T i S3 P q) λf U p=>?_))))
   obtain⟨y,W,B,v,q⟩:=p
   have c:=I.trans W
   have f:=((N.stepI g (λb q=>(a b q).1)).stepI t (λb q=>(a b q).1)).trans c
   have D:∀ {q:dK K tgt u n _ _ _ Q},lz C.M A (.forLoop target x body [] env) (aAz C env ρ0 h Q) U:=λ{q}=>
    V i f y B (K.mono G c.pre c.imm (λb o q j=>c.kp b o j (d b q).2.1 (a b q).2.2.2))
     (λb z=>xE (K.alive G b z) λo' j=>⟨(a b z).1,c.own j (d b z).2.1,(a b z).2.2⟩) q
   cases v with
   |next=>exact zzP ⟨rfl,D (q:=q)⟩
   |cont=>exact zzP ⟨rfl,D (q:=q)⟩
   |brk=>exact zzP ⟨y,f,B,.next,q⟩
   |ret v=>exact zzP ⟨y,f,B,.ret v,q⟩
def gP(K:ItK C)(fi:IF K)(tgt:AF)(bf:SF):SF:=λlo H Q=>fi lo H λit H1=>∃ n,dK K tgt bf n it lo H1 Q
theorem SV.for_{K:ItK C}{pos}{j:IF K}(s:IV K r env iter j)(l:AV C r env target tgt)(p:SVs C r env body d)(c:K.tg target/\K.need<=r)(hs:∀ x,ip iter env x=pure x):SV C r env (.For target iter body [] pos) (gP K j tgt d):=λt t t t t t i S F e=>wpAny_For (wmN (s i S F e) λx s1 h=>wmN h λy s2 z=>by
  cases z with |mk S2 g m a q=>
  refine xE q λn q=>k4 (vY l p c n i g.wr S2 (F.nx g) m (λb q=>⟨(a b q).1,(a b q).2.1,(a b q).2.2,λhw=>?_⟩) q) λrr s3 k=>?_
  ·refine xE (F.alv b hw) λo o=>?_;cases (((a b q).1)▸o)
  ·cases rr with
   |ok f=>exact k
   |error _=>exact k.elim) hs
def runW(t:TF)(b:SF):Nat->Lo->MH->SK->Prop
 |0,_,_,_=>f7
 |n+1,lo,H,Q=>t lo H λc H1=>bif c then b lo H1 (vM (runW t b n) Q) else Q .next lo H1
def fK(t:TF)(b:SF):SF:=λlo H Q=>∃ n,runW t b n lo H Q
inductive WInv(C:Cx)(env:Env)(t:TF)(b:SF)(Q:SK)(ρ:aq Lc)(s:bo)(n:Nat)(s1:bo):Prop
 |mk {ρ1:aq Lc}{H1:MH}{lo1:Lo} (S:Sim C H1 ρ1 s1) (N:Nx ρ (Wr env) s ρ1 s1) (F:Fm C env ρ1 s1 lo1) (e:runW t b n lo1 H1 Q):WInv C env t b Q ρ s n s1
theorem SV.while_{pos}{b:SF}(l:TV C r env c t)(o:SVs C r env body b):SV C r env (.While c body [] pos) (fK t b):=by
 refine λA s ρ H lo Q k S F e=>(xE e λn e=>wpAny_While (codeAny_whileLoop (WInv C env t b Q ρ s) ?_ n ⟨S,.refl,F,e⟩))
 intro n s1 p
 obtain⟨m,q,j,e⟩:=p
 cases n with
 |zero=>exact e.elim
 |succ n=>
  refine l.run k m j e λ{y u u u} S2 h e=>?_
  have a:=q.trans h.wr
  cases y with
  |false=>exact uh ⟨S2,a,j.nx h,.next,e⟩
  |true=>
   refine wmN (o k S2 (j.nx h) e) λf s3 p=>?_
   obtain⟨f,d,g,i,e⟩:=p
   cases i with
   |next=>exact⟨n,qc _,f,a.trans d,g,e⟩
   |cont=>exact⟨n,qc _,f,a.trans d,g,e⟩
   |brk=>exact⟨f,a.trans d,g,.next,e⟩
   |ret i=>exact⟨f,a.trans d,g,.ret i,e⟩
def ALs(C:Cx)(r:Nat)(env:Env)(ts:aq Expr)(f:AF):Prop:=∀ ⦃A:fq⦄⦃s:bo⦄⦃ρ:aq Lc⦄⦃H:MH⦄⦃lo:Lo⦄⦃u:bt⦄⦃v:V⦄⦃Q:Lo->MH->Prop⦄,Room r A->Sim C H ρ s->Fm C env ρ s lo->VR ρ s.heap u v->f v lo H Q->
  bw C.M A (assignAll u ((gj ts env).map (·.2))) (eV C env (Wr env) ρ s Q) NoE s
theorem ALs.one(h:AV C r env t f)(a:(gj [t] env).map (·.2)= [vm t env]):ALs C r env [t] f:=by
 exact λA s ρ H lo u v Q b S F rv e=>(rwL a (h b S F rv e))
def iY(f g:AF):AF:=λv lo H Q=>f v lo H λlo1 H1=>g v lo1 H1 Q
theorem ALs.cons{a:aq Expr}(h:AV C r env t f)(hs:ALs C r env (t2::a) g)(j:(gj (t::t2::a) env).map (·.2)=vm t env::(gj (t2::a) env).map (·.2))(i:∃ x xs,(gj (t2::a) env).map (·.2)=x::xs):ALs C r env (t::t2::a) (iY f g):=by
 intro A s ρ H lo u v Q d S F rv e
 rw[j]
 have b:bw C.M A (do sx [u] (vm t env u);assignAll u ((gj (t2::a) env).map (·.2))) (eV C env (Wr env) ρ s Q) NoE s:=zzB (bx (eV.run (α:=uq) (h d S F rv e) λS1 c k q=>wmN (hs d S1 k (rv.nx c) q) λm m p=>p.from c))
 refine xEE i λx xs l=>?_
 rw[l]at b ⊢
 exact b
def dF(f:EF)(g:AF):SF:=λlo H Q=>f lo H λv H1=>g v lo H1 λlo' H2=>Q .next lo' H2
theorem SV.assigns{a:aq Expr}{pos}(h:EV C r env e f)(i:ALs C r env a g)(hs:swapsWithSole a e pos.line env=pure false)(j:kf a e env=pure ba):SV C r env (.Assign a e pos) (dF f g):=λm m m m m m c S F q=>wpAny_Assign_stores (h.run c S F q λS1 b k q=>eV.run (α:=uq) (i c S1 (F.nx b) k q) λS2 l d q=>⟨S2,b.wr.trans l,d,.next,q⟩) hs j
def upds:aq Str->aq V->Lo->bc Lo
 | [],[],lo=>am lo
 |x::xs,v::vs,lo=>upds xs vs (upd lo x v)
 |_,_,_=>ba
theorem VRs.rev(r:VRs ρ h us vs):VRs ρ h us.reverse vs.reverse:=by
 induction us generalizing vs with
 |nil=>cases r;exact .nil
 |cons u us c=>cases r with
  |cons a b=>simp only[List.reverse_cons];exact(c b).append (.cons a .nil)
def cN(names:aq Str)(f:EF):SF:=λlo H Q=>f lo H λv H1=>Lf v.tp λvs=>vs.length=names.length/\Lf (upds names.reverse vs.reverse lo) λlo'=>Q .next lo' H1
theorem SV.swap{pos}(h:EV C r env e f)(hs:swapsWithSole [.Tuple d k g] e pos.line env=pure false)(N:kf [.Tuple d k g] e env=pure (am c))(t:∀ x∈c,env.kindOf x=am .local\/env.kindOf x=am .cell):SV C r env (.Assign [.Tuple d k g] e pos) (cN c f):=λU U U U U U z S F q=>Assign_Tuple_swapped (h.run z S F q λS1 o E q=>q.elim λvs K q=>q.2.elim λlo1 L B=>by
  obtain⟨a,l,T,_,w,gt,_,rs⟩:=E.toTup K;subst w
  refine rwR q.1 (rwR rs.sz (unpackItems_tuple z.1 ⟨_,gt,rfl,_,rfl⟩ λh' P=>?_))
  have i:=xR P
  exact eV.run (α:=uq) ((by
   intro C env A Q l
   induction l with
   |nil=>
    intro m vs s ρ H lo j S F r e q _
    cases r with
    |nil=>refine cyS e λzq=>?_;subst zq;exact zzP ⟨S,.refl,F,q⟩
    |cons=>exact aE e
   |cons x l O=>
    intro m vs s ρ H lo j S F r e q t
    cases r with
    |nil=>exact aE e
    | @cons u m v vs a b=>
     exact(zzB (bx (bindName_ (hI S F a (uL (t x (.head _))) λU S1 o R=>wmN (O S1 R (b.nx o) e q (λy G=>t y (.tail _ G))) λU U p=>p.from o))):bw C.M A (do sx m (bindName env x u);qx (l.map λn=>bindName env n) m) _ _ s):∀{C:Cx}{env:Env}{A:fq}{Q:Lo->MH->Prop}{l:aq Str},∀ {m:aq bt}{vs:aq V}{s:bo}{ρ:aq Lc}{H:MH}{lo j:Lo},Sim C H ρ s->Fm C env ρ s lo->VRs ρ s.heap m vs->upds l vs lo=am j->Q j H-> (∀ x∈l,env.kindOf x=am .local\/env.kindOf x=am .cell)->bw C.M A (qx (l.map λn=>bindName env n) m) (eV C env (Wr env) ρ s Q) NoE s) (S1.ext i) ((F.nx o).nx (.ext i)) (rs.mono (cc _) (dM i).im).rev L B (λx J=>t x (by simpa using J))) λS2 I D q=>⟨S2,(o.wr.trans (.ext i)).trans I,D,.next,q⟩) hs N
def sH(x:Str)(g:OpF)(f:EF):SF:=λlo H Q=>Lf (lo x) λa=>f lo H λb H2=>Lp (g a b H2) λv H1=>Q .next (upd lo x v) H1
theorem SV.aug{pos'}{pos}(h:EV C r env e f)(l:OpR C r (inplaceOp op) g)(c:env.kindOf x=am .local\/env.kindOf x=am .cell)(j:(x==("__classdict__" :Str))=false):SV C r env (.AugAssign (.Name x pos') op e pos) (sH x g f):=λt t t t t t d S F q=>q.elim λa o q=>wpAny_AugAssign_Name (rI (c.imp_right .inl) j F o λu m=>h.run d S F q λS2 a k q=>bQ.run (l d S2 (m.nx a) k q) λS3 b s q=>
  hI S3 ((F.nx a).nx b) s (uL c) λt i p n=>⟨i,(a.trans b).wr.trans p,n,.next,q⟩)
def bE(f:EF):SF:=λlo H Q=>f lo H λq H1=>Q .next lo H1
theorem SV.expr{pos}(h:EV C r env e f)(b:qW env=false)(hs:sb e ba pos.line env=pure false):SV C r env (.Expr e pos) (bE f):=λg g g g g g c S F q=>wpAny_Expr_any (h.run c S F q λS1 a d q=>⟨S1,a.wr,F.nx a,.next,q⟩) b hs
def sNo:SF:=λq q q=>f7
theorem SVs.no{b:aq jg}:SVs C r env b sNo:=λa a a a a a a a a q=>q.elim
theorem aDb{a:jf bt}(q:IsL s.heap l a n)(y: -1000000<k/\k<1000000)(m:jt k a.size=am j)(g:Q () {s with heap:=s.heap.update l (Obj.mapSeq (·.setIfInBounds j v))}):
  bw (ir prog w) A (vy (.ref l) (.int k t) v) Q E s:=by
 have b:=q.isList
 refine yR (id b) λo f x r h=>?_
 have d:j<a.size:=by refine Or.elim (wX m) (λh=>?_) λh=>?_<;>omega
 delta vy
 try with_reducible refine bx ?_
 first |refine zzB (zzP ?_) |skip
 refine zzB (wpAny_sequenceKey b.typeIs (by decide) ?_)
 refine zzB (e8 b.typeIs slot_list_setitem
  (fu slot_list_setitem b.typeIs entry_list_setitem ?_ (args_list_setitem _ _ _)))
 refine(?_:bw _ _ (Builtin.List.listSubscript? (.int k t) >>=_) _ _ s)
 rcases wX m with ⟨c,e,_⟩ |⟨c,p,e,_⟩
 ·refine zzB (tj (fitsIndex_of c (by omega)) (xE (jp c) λj' i=>?_));subst i
  have:=by simpa using e
  subst this
  refine zzB (zzB (wpAny_seqItemAt f h (zzP (rwL (Array.getElem?_eq_getElem d) (zzB (wpAny_setSeqItemAt f h ?_))))))
  first
   |exact zzB (zzP (zzP ⟨.none,rfl,zzP g⟩))
   |exact zzP ⟨.none,rfl,zzP g⟩
 ·refine zzB (tj (fitsIndex_neg c (by omega)) ?_)
  have o:=seqIndex_neg c p
  obtain⟨u,rfl⟩:∃ j:Nat,k=Int.negSucc j:=by
   cases k with
   |ofNat n=>exact bv c (kz.mpr (fz n))
   |negSucc n=>exact⟨n,rfl⟩
  refine zzB (zzB (zzB (hE f h (zzP (zzP ?_)))))
  rw[m]
  simp only[Option.bind_some,(Array.getElem?_eq_getElem d),qd]
  refine zzB (wpAny_setSeqItemAt f h ?_)
  first
   |exact zzB (zzP (zzP ⟨.none,rfl,zzP g⟩))
   |exact zzP ⟨.none,rfl,zzP g⟩
theorem Sim.put(S:Sim C H ρ s)(c:ρ[i]? =am l)(h:H[i]? =am m)(t:l.d=l.a)(g:s.heap.get? l.a=am o)(p: ¬aY o)(hs:Heap.SameBut l.a s.heap h')(r:∃ o,h'.get? l.a=am o)(h1:∀ vs,m≠ .ro vs)(h2:∀ vs,m'≠ .ro vs)(j:Im ρ ρ s.heap h'->OR C ρ {s with heap:=h',toks:=k} l m'):
  Sim C (H.set i m') ρ {s with heap:=h',toks:=k}/\∀ W,Nx ρ W s ρ {s with heap:=h',toks:=k}:=by
 have f:Im ρ ρ s.heap h':=(dU hs g p).im
 refine⟨S.upd (s':= {s with heap:=h',toks:=k}) c h h1 (λb o e n=>(hs.2 b λq=>n (.inl q)).trans e) f rfl rfl (j f) h2,
  λW=>⟨cc _,λl c=>by simp at c,λb o e g u=>(hs.2 b λq=>g ⟨l,eg c,.inl q⟩).trans e,f,λb o e=>?_⟩⟩
 by_cases q:b=l.a
 ·exact rwL q r
 ·exact⟨o,(hs.2 b q).trans e⟩
theorem l6.put(S:Sim C H ρ s)(O:l6 H ρ s i l vs xs n)(f:jf bt->jf bt)(b:VRs ρ s.heap (f xs).toList vs'):Sim C (H.set i (.list vs')) ρ {s with heap:=s.heap.update l.a (Obj.mapSeq f),toks:=k}/\∀ W,Nx ρ W s ρ {s with heap:=s.heap.update l.a (Obj.mapSeq f),toks:=k}:=S.put O.g O.h O.d O.x (by simp [aY]) (Heap.SameBut.update ..) ⟨_,O.x.update f⟩ (by intro _ h;cases h) (by intro _ h;cases h) λim=>⟨O.d,O.gn,f xs,_,O.x.update f,b.mono (cc _) im⟩
def dput(f:Int->bc V)(k:Int)(v:V):Int->bc V:=λx=>if x=k then am v else f x
theorem pD(b:aq (Int×bt))(k x:Int)(v:bt):pG (stored b k v) x=if x=k then am v else pG b x:=by
 delta stored
 by_cases g:b.any (λkv=>decide (kv.1=k))=be
 ·rw[ca g]
  by_cases d:x=k
  ·subst d
   rw[ca rfl]
   induction b with
   |nil=>simp at g
   |cons a t f=>
    by_cases c:a.1=x
    ·simp [pG,c]
    ·have:=f (by simpa [c] using g:t.any (λkv=>decide (kv.1=x))=be)
     simp only[pG,kn,c,pg,vo,decide_false]at this ⊢
     exact this
  ·rw[bz d]
   clear g
   induction b with
   |nil=>rfl
   |cons a t f=>
    by_cases c:a.1=k
    ·simp only[pG,kn,c,vx,vo]at f ⊢
     rw[(by simpa using λe=>d e.symm:decide (k=x)=false)]
     exact f
    ·by_cases i:a.1=x
     ·refine rwR i ?_
      simp only[pG,kn,c,pg,vo,decide_true,qd]
     ·simp only[pG,kn,c,pg,vo,i,decide_false]at f ⊢
      exact f
 ·rw[bz g]
  delta pG
  rw[List.find?_append]
  by_cases d:x=k
  ·subst d
   have:b.find? (λkv=>decide (kv.1=x))=ba:=by
    rw[List.find?_eq_none];exact λa c h=>(g (List.any_eq_true.mpr ⟨a,c,h⟩))
   simp [this]
  ·simp [d,(by simpa using λe=>d e.symm:decide (k=x)=false)]
theorem Sim.setD{b:aq (Int×bt)}(S:Sim C H ρ s)(t:ρ[i]? =am l)(y:H[i]? =am (.dict n f))(p:l.d=l.a)(q:l.g=ba)(c:s.heap.DictOf (sv C.prog C.w) l.a b)(z:b.length<=n)(A:∀ k,OV ρ s.heap (pG b k) (f k))(rv:VR ρ s.heap u v)(j:h'.DictOf (sv C.prog C.w) l.a (stored b k u))(hs:Heap.SameBut l.a s.heap h'):Sim C (H.set i (.dict (n+1) (dput f k v))) ρ {s with heap:=h',toks:=tk}/\∀ W,Nx ρ W s ρ {s with heap:=h',toks:=tk}:=by
 refine d5 (id c) λo E B r D m F=>S.put t y p r (by delta aY;exact rwL m id) hs (let ⟨o,_,_,e,_⟩:=j;⟨o,e⟩) (by intro _ h;cases h) (by intro _ h;cases h) λim=>⟨p,q,_,j,Nat.le_trans (stored_length_le _ _ _) (rz z),λx=>?_⟩
 rw[pD]
 delta dput
 by_cases c:x=k
 ·rw[ca c,ca c];exact rv.mono (cc _) im
 ·rw[bz c,bz c];exact(A x).mono (cc _) im
def setO(H:MH)(i:Nat)(k:Int)(v:V):MO->bc MH
 | .list vs=>if-1000000<k/\k<1000000 then(jt k vs.length).map λj=>H.set i (.list (vs.set j v)) else ba
 | .dict n f=>if n<1000000 then am (H.set i (.dict (n+1) (dput f k v))) else ba
 |_=>ba
def sL(a b v:V)(H:MH):bc MH:=a.rf.bind λi=>(Ti b).bind λk=>H[i]?.bind (setO H i k v)
theorem VRs.set(r:VR ρ h u v):∀ {us:aq bt}{vs:aq V} (j:Nat),VRs ρ h us vs->VRs ρ h (us.set j u) (vs.set j v)
 |_,_,_,.nil=>.nil
 |_,_,0,.cons a b=>.cons r b
 |_,_,j+1,.cons a b=>.cons a (VRs.set r j b)
set_option tactic.hygienic true in
theorem pL{a b:bt}{K:uq->bo->Prop}(S:Sim C H ρ s)(ra:VR ρ s.heap a D)(rb:VR ρ s.heap b B)(rv:VR ρ s.heap u v)(e:sL D B v H=am H')(k:∀ s',Sim C H' ρ s'->(∀ W,Nx ρ W s ρ s')->K () s'):bw C.M A (vy a b u) K E s:=by
 refine xEA (bn.mp e) λi I w=>xEA (bn.mp w) λkk t y=>xEA (bn.mp y) λm o c=>c6 (ra.toRef I) λl N h g=>?_;subst h
 refine VR.ti (P:=λb=>bw C.M A (vy _ b u) _ _ s) rb t λt=>?_
 clear e w y
 cases m with
 |list vs=>
  replace c:(if-1000000<kk/\kk<1000000 then(jt kk vs.length).map λj=>H.set i (.list (vs.set j v)) else ba)=am H':=c
  split at c
  ·rename_i t
   refine xEA (dy.mp c) λj G d=>?_;subst d
   refine xEE (jL S g o) λxs n O=>aDb O.x t (by exact rwL O.r.sz G) ?_
   have:=O.put (k:=s.toks) S (λxs=>xs.setIfInBounds j u) (by simpa using VRs.set rv j O.r)
   exact k _ this.1 this.2
  ·cases c
 |dict n f=>
  replace c:(if n<1000000 then am (H.set i (.dict (n+1) (dput f kk v))) else ba)=am H':=c
  split at c
  ·refine cyS c λzq=>?_;subst zq
   refine wL (S.objs i _ l o g) λh1 J F z q L=>wpAny_setItem_pairs (sg _ _ _ _) z (λh' p hs=>?_) (by rw[ez];omega)
   have:=S.setD (tk:=s.toks+1) g o h1 J z q L rv p hs
   exact k _ this.1 this.2
  ·cases c
 |_=>cases c
def uG(f1 f2:EF):AF:=λv lo H Q=>f1 lo H λa H1=>f2 lo H1 λb H2=>Lf (sL a b v H2) λH3=>Q lo H3
theorem AV.sub(h1:EV C r env c f1)(h2:EV C r env f f2):AV C r env (.Subscript c f pos) (uG f1 f2):=by
 intro A s ρ H lo u v Q g S F rv e
 rw[assign_Subscript]
 exact zzB (bx (h1.run g S F e λS1 a i e=>zzB (bx (h2.run g S1 (F.nx a) e λS2 b h e=>e.elim λH3 k q=>
  zzB (f5 (zzB (bx (pL S2 (i.nx b) h ((rv.nx a).nx b) k λl j d=>wpAny_release ⟨j,(a.trans b).wr.trans (d _),((F.nx a).nx b).nx (d _),q⟩))))))))
def rX:EF:=λq H Q=>Q (.ref H.length) (H++[.dict 0 λq=>Option.none])
theorem EV.dict0{pos}:EV C r env (.Dict [] [] pos) rX:=λA s ρ H lo Q b S F e=>
 wpAny_Dict_empty ⟨S.alloc {cls:=.type "dict",data:=.dict #[]} (.dict 0 λq=>Option.none) ⟨rfl,rfl,[],⟨_,#[],0,Heap.get?_push_size _ rfl,⟨rfl,rfl,rfl⟩,rfl,λq a=>by simp at a,.nil,by simp⟩,Nat.le_refl _,λk=>trivial⟩,.alloc _,VR.ref (l:=⟨s.heap.objs.size,s.heap.objs.size,Option.none⟩) (by rw[<-S.len];simp),e⟩
noncomputable abbrev CF:=aq V->MH->EK->Prop
def Keeps(C:Cx)(f:bt):Prop:=∀ h:kh,(∀ b o,C.base.heap.get? b=am o->h.get? b=am o)->∃ k,(k=Keeper.frame\/k=Keeper.machine\/k=Keeper.boundFrame)/\ph C.M h (keeperOf f) k
structure CV(C:Cx)(r:Nat)(f:bt)(g:CF):Prop where
 keep:Keeps C f
 call:∀ {A:fq}{s:bo}{ρ:aq Lc}{H:MH}{us:aq bt}{vs:aq V}{Q:EK},Room r A->Sim C H ρ s->VRs ρ s.heap us vs->g vs H Q->
  bw C.M A (PySem.call f us) (bQ C ρ s Q) NoE s
theorem cQ{id:qp}:Keeps C (.builtin id):=λh q=>⟨.machine,.inr (.inl rfl),.now⟩
theorem dT{id:qp}:Keeps C (.type id):=λh q=>⟨.machine,.inr (.inl rfl),.now⟩
def lf(g:aq V->MH->bc (V×MH)):CF:=λvs H Q=>Lp (g vs H) Q
theorem CV.of(b:Keeps C f)(h:∀ {A:fq}{s:bo}{ρ:aq Lc}{H:MH}{us:aq bt}{vs:aq V}{v:V}{H':MH},Room r A->Sim C H ρ s->VRs ρ s.heap us vs->g vs H=am (v,H')-> bw C.M A (PySem.call f us) (EPo C ρ s H' v) NoE s):CV C r f (lf g):=⟨b,λhr S a q=>q.elim λp e q=>wmN (h hr S a e) λc c p=>p.post q⟩
def l9(env:Env)(es:aq Expr):Prop:=(es= []\/∃ e rest,es=e::rest/\e9 es env=(false,jc e env)::e9 rest env)/\∀ pos,(lr pos (e9 es env)).any (·.1)=false
theorem j6(h:EVs C r env c fs)(i:l9 env c)(j:Room r A)(S:Sim C H ρ s)(F:Fm C env ρ s lo)(e:fs lo H Q):bw C.M A (evalArgs f be (lr pos (e9 c env)) []) (λa s'=>a.kw= []/\yQ C ρ s Q a.pos s') NoE s:=by
 have b:=h (pos:=pos) j S F e
 rcases i.1 with rfl |⟨k,d,rfl,g⟩
 ·delta evalArgs
  exact zzB (wmN b λvs s' q=>zzB (zzP (bx (zzB (zzP (zzB (zzP (zzP ⟨rfl,q⟩))))))))
 ·rw[g]at b ⊢
  exact evalArgs_plain (wmN b λl l q=>⟨rfl,q⟩)
def Glo(C:Cx)(x:Str)(f:bt):Prop:=∃ mg,C.base.heap.Ns gw mg/\(mg x=am f\/(mg x=ba/\∃ mb,C.base.heap.Ns kl mb/\mb x=am f))
theorem lH{h h':kh}{a:d3}(e:h.Ns a m)(d:∀ b o,h.get? b=am o->h'.get? b=am o):h'.Ns a m:=let ⟨o,f,g,c,q⟩:=e;⟨o,f,g,d _ _ c,q⟩
theorem kV(e:Glo C x f)(i:env.kindOf x=am .globalImplicit)(j:(x==("__debug__" :Str))=false)(S:Sim C H ρ s)(F:Fm C env ρ s lo)(h:Q f s):bw C.M A (jc (.Name x pos) env) Q NoE s:=by
 refine xEA e λmg c a=>?_
 have d:s.heap.Ns env.globals mg:=by exact rwL F.gl (lH c S.keep)
 refine Name_function_global F.fn i ?_ j
 rcases a with a |⟨a,k,b,g⟩
 ·exact loadGlobal_global d a h
 ·exact loadGlobal_builtin d a (by exact rwL F.bi (lH b S.keep)) g h
def aJ(g:CF)(fs:EFs):EF:=λlo H Q=>fs lo H λvs H1=>g vs H1 Q
theorem nI(h:CV C r f g)(l:EVs C r env c fs)(b:l9 env c)(i:Room r A)(S:Sim C H ρ s)(F:Fm C env ρ s lo)(r1:VRs ρ s.heap first k)(q:fs lo H λvs H1=>g (k++vs) H1 Q):bw C.M A (wq pos f first (lr pos (e9 c env)) []) (bQ C ρ s Q) NoE s:=om (by rw[b.2];rfl) h.keep (wmN (j6 l b i S F q) λa s1 p=>by
  obtain⟨ps,m⟩:=a
  obtain⟨e,j,d,rs,q⟩:=p
  subst e
  exact⟨j.keep,wmN (h.call i j ((r1.nx d).append rs) q) λn n p=>p.from d⟩)
theorem EV.call{b:aq Expr}(i:CV C r f g)(c:Glo C x f)(k:EVs C r env b fs)(a:l9 env b)(d:env.kindOf x=am .globalImplicit)(j:(x==("__debug__" :Str))=false):EV C r env (.Call (.Name x h) b [] pos) (aJ g fs):=λq q q q q q l S F e=>k6 (kV c d j S F (nI i k a l S F .nil e))
theorem fD{a:Pos}{P:bt->bo->Prop}(f:kg o name env (jc o env)=jc o env)(j:((lr pos (e9 args env)).all (λx=> !x.1) && (backToKw pos (wi [] env)).all (λx=>x.1.isSome) && decide (args.length+([]:aq uV).length+(if ([]:aq uV).isEmpty then 0 else 1)<30))=be)(d:(a.endLine==pos.line)=be)(h:bw C.M A (jc o env) (λov b=>∀ pl,bw C.M A (getMethod ov name pl) (λq c=>bw C.M A (wq pos q.1 q.2 (lr pos (e9 args env)) []) Q E c) E b) E s):bw C.M A (jc (.Call (.Attribute o name a) args [] pos) env) Q E s:=by
 rw[arm_eval_Call,f]
 refine zzB (f4 h (λov b l=>(zzB (f5 ?_))) λm m e=>e)
 have g:methodCallForm (args.length+([]:aq uV).length) (lr pos (e9 args env)) (backToKw pos (wi [] env))=be:=j
 have k:methodCallPos be o env a pos=pure pos:=by delta methodCallPos;simp [d]
 delta methodCall
 exact rwL g (zzB (bx (f4 (l _) (λq c i=>(zzB (jy k i))) λm m e=>e)))
structure fM(env:Env)(o:Expr)(name:Str)(apos pos:Pos)(args:aq Expr):Prop where
 base:kg o name env (jc o env)=jc o env
 few:((lr pos (e9 args env)).all (λx=> !x.1) && (backToKw pos (wi [] env)).all (λx=>x.1.isSome)
   && decide (args.length+([]:aq uV).length+(if ([]:aq uV).isEmpty then 0 else 1)<30))=be
 line:(apos.endLine==pos.line)=be
theorem oK{id:qp}{b:Pos}{K:bt->bo->Prop}(u:EV C r env o f)(m:fM env o name b pos args)(d:Slot "list" name id)(p:tt (.builtin id)=pure (.type "method_descriptor"))(y:Room r A)(S:Sim C H ρ s)(F:Fm C env ρ s lo)(e:f lo H Q)(w:∀ v H1,Q v H1->∃ i vs,v.rf=am i/\H1[i]? =am (.list vs))(h:∀ {s1 c l i vs xs n H1},Sim C H1 c s1->Nx ρ noW s c s1->l6 H1 c s1 i l vs xs n->Q (.ref i) H1->bw C.M A (wq pos (.builtin id) [.ref l.a] (lr pos (e9 args env)) []) K NoE s1):bw C.M A (jc (.Call (.Attribute o name b) args [] pos) env) K NoE s:=fD (P:=λE E=>qm) m.base m.few m.line (u.run y S F e λS1 D t q pl=>by
  refine jC (w _ _ q) λi vs B z=>c6 (t.toRef B) λl j k g=>rwL k ?_
  subst j
  exact xEE (jL S1 g z) λxs n O=>getMethod_builtin ⟨_,O.x,rfl⟩ PySem.F.plainAttrs_list d p (λa e=>by cases e;exact⟨_,O.x,rfl⟩) (h S1 D O q))
def eM1(f g:EF)(k:Nat->aq V->V->MH->EK->Prop):EF:=λlo H Q=>f lo H λa H1=>Lf a.rf λi=>(∃ vs,H1[i]? =am (.list vs))/\g lo H1 λv H2=>Lf (H2[i]?.bind MO.own) λvs=>k i vs v H2 Q
def c9(f g:EF):EF:=eM1 f g λi vs v H2 Q=>vs.length<1000000/\Q .none (H2.set i (.list (vs++[v])))
theorem EV.append{a:Pos}(j:EV C r env o f)(u:EV C r env e g)(t:fM env o "append" a pos [e])(l:lr pos (e9 [e] env)= [(false,jc e env)]):EV C r env (.Call (.Attribute o "append" a) [e] [] pos) (c9 f g):=λv v v v v v d S F q=>oK j t PySem.F.slot_list_append PySem.F.type_list_append d S F q (λv H1 q=>q.elim λi p q=>⟨i,q.1.choose,p,q.1.choose_spec⟩) λS1 h O q=>by
  refine rwL l (PySem.P.append_list (u.run d S1 (F.nx h) q.2 λ{v s2 v v v} S2 c s q=>q.elim λvs m q=>(xEE (jL S2 (aR c.pre O.g) (kO m)) λxs n b=>?_)))
  have st:=b.put (k:=s2.toks) S2 (λxs=>xs.push _) (by simpa using b.r.append (.cons s .nil))
  exact⟨xs,n,by rw[ez,b.r.sz];omega,b.x,st.1,(h.trans c).trans (st.2 _),.none,q.2⟩
def xV(f g:EF):EF:=eM1 f g λi vs v H2 Q=>Lf (own H2 v) λws=>vs.length+ws.length<1000000/\Q .none (H2.set i (.list (vs++ws)))
theorem EV.extend{b:Pos}(z:EV C r env o f)(I:EV C r env e g)(E:fM env o "extend" b pos [e])(A:lr pos (e9 [e] env)= [(false,jc e env)]):EV C r env (.Call (.Attribute o "extend" b) [e] [] pos) (xV f g):=λJ J J J J J w S F q=>oK z E PySem.F.slot_list_extend PySem.F.type_list_extend w S F q (λv H1 q=>q.elim λi p q=>⟨i,q.1.choose,p,q.1.choose_spec⟩) λS1 y O q=>by
  refine rwL A (PySem.P.extend_list (I.run w S1 (F.nx y) q.2 λ{J s2 J J J} S2 v D q=>q.elim λvs j q=>q.elim λws s q=>(xEE (jL S2 (aR v.pre O.g) (kO j)) λxs n d=>oA ((by
   exact xEA (bn.mp s) λi p s=>c6 (D.toRef p) λl j H g=>xEE (jL S2 g (kO s)) λxs n h=>⟨i,l,xs,n,j,H,h⟩)) λi' l' c B J m t=>?_)));subst m
  have G:=d.r.sz;have u:=t.r.sz
  have st:=d.put (k:=s2.toks) S2 (λxs=>xs++c) (by simpa using d.r.append t.r)
  refine⟨l'.a,xs,c,n,B,by rw[ez];omega,by rw[ez];omega,?_,rfl,d.x,t.x,st.1,(y.trans v).trans (st.2 _),.none,q.2⟩
  rw[(by
   intro n h
   exact rwL ez (bp (zzM1 0x5a2807d42082083d00011ec3283d07da00007 [n] ⋯ h)):∀{n:Nat}(h:n<1000000),Builtin.List.listTooLong n=false) (by omega)];simp
def eM0(f:EF)(k:Nat->aq V->MH->EK->Prop):EF:=λlo H Q=>f lo H λa H1=>Lf a.rf λi=>Lf (H1[i]?.bind MO.own) λvs=>vs.length<1000000/\k i vs H1 Q
def ePop(f:EF):EF:=eM0 f λi vs H1 Q=>Lf vs[vs.length-1]? λv=>Q v (H1.set i (.list (vs.eraseIdx (vs.length-1))))
theorem VRs.erase:∀ {us:aq bt}{vs:aq V} (j:Nat),VRs ρ h us vs->VRs ρ h (us.eraseIdx j) (vs.eraseIdx j)
 |_,_,_,.nil=>.nil
 |_,_,0,.cons a b=>b
 |_,_,j+1,.cons a b=>.cons a (VRs.erase j b)
theorem l6.same(O:l6 H ρ s i l vs xs n)(e:H[i]?.bind MO.own=am ws):ws=vs:=by
 rw[O.h]at e;exact(Option.some.inj e).symm
set_option tactic.hygienic true in
theorem EV.pop{a:Pos}(m:EV C r env o f)(v:fM env o "pop" a pos []):EV C r env (.Call (.Attribute o "pop" a) [] [] pos) (ePop f):=λy y y y y y t S F q=>oK m v PySem.F.slot_list_pop PySem.F.type_list_pop t S F q (λv H1 q=>q.elim λi g q=>q.elim λvs d y=>⟨i,vs,g,kO d⟩) λ{s1 h l i vs c n H1} S1 N1 O q=>by
  refine q.elim λi' g q=>cyS g λzq=>?_;subst zq
  refine q.elim λws u q=>?_
  obtain rfl:=O.same u
  refine q.2.elim λv d j=>xEA (O.r.get d) λu w p=>?_
  have b:=O.r.sz
  refine PySem.P.pop_list O.x (by rw[b];simpa using w) ?_ (by rw[ez];omega)
  have st:=O.put (k:=s1.toks) S1 (vs':=ws.eraseIdx (ws.length-1)) (λys=>ys.eraseIdxIfInBounds (c.size-1)) (by
   rw[b]
   have e:(c.eraseIdxIfInBounds (ws.length-1)).toList=c.toList.eraseIdx (ws.length-1):=by
    unfold Array.eraseIdxIfInBounds
    split
    ·rw[Array.toList_eraseIdx]
    ·rename_i s;rw[List.eraseIdx_of_length_le (by simp;exact zzM1 0x1254a9207da01a40a2907d07da01000107 [ws.length,c.size] ⋯ s)]
   exact rwL e (VRs.erase (ws.length-1) O.r))
  exact⟨st.1,N1.trans (st.2 _),p.nx (st.2 noW),j⟩
def m6(vs:aq V):bc (aq Int):=vs.mapM Ti
theorem zQ(r:VRs ρ h us vs):∀ {is:aq Int},m6 vs=am is->∃ ts:aq Tok,ts.length=is.length/\us=(is.zip ts).map λx=>Value.int x.1 x.2:=r.ind (P:=λus vs=>∀ {is:aq Int},m6 vs=am is->∃ ts:aq Tok,ts.length=is.length/\us=(is.zip ts).map λx=>Value.int x.1 x.2) (λe=>by exact cxS e ⟨[],rfl,rfl⟩) λ{u us v vs} a q j {is} e=>by
  simp only[m6,uU,vw,bn,pure_def,Option.some.injEq]at e
  refine aCd e λi c js f b=>?_;clear e;subst b
  exact xEA (j f) λts g d=>VR.ti (P:=λu=>∃ ts:aq Tok,ts.length=(i::js).length/\u::_=((i::js).zip ts).map λx=>Value.int x.1 x.2) a c λt=>⟨t::ts,b3 (·+1) g,b3 (Value.int i t::·) d⟩
def pRng(C:Cx):ItP C (Int×Nat×Int) where
 nx:=λit H=>am (match it with | (x,n+1,c)=>am (.int x,(x+c,n,c)) | (_,0,_)=>ba)
 rel:=λρ s it a=>IsRangeIter s.heap a it.1 it.2.1 it.2.2
 T:="range_iterator"
 own:=by decide
 mono:=λh1 e i hk=>hk _ h1
 obj:=λh1=>⟨_,h1,rfl,by simp [aY]⟩
 item:=by
  rintro A s ρ H ⟨x,n,c⟩ a v it' Q hh S h1 e k
  cases n with
  |succ n=>
   cases e
   refine wpAny_pyNext_range_item h1 (by simp) λh' h2 hs=>k _ h' _ hs (.int _ _) λs' hs' im=>?_
   subst hs'
   simpa using h2
  |zero=>cases e
 fin:=by
  rintro A s ρ H ⟨x,n,c⟩ a Q hh S h1 e k
  cases n with
  |succ n=>cases e
  |zero=>exact wpAny_pyNext_range_end hh h1 (by simp) λh' he=>k h' he
noncomputable abbrev kU(C:Cx):ItK C:=(pRng C).it
def V.rn:V->bc (Int×Int×Int) | .rng a b c=>am (a,b,c) |_=>Option.none
theorem VR.toRng(r:VR ρ h u v)(e:v.rn=am p):∃ a t1 t2 t3,u= .ref a/\IsRange h a p.1 p.2.1 p.2.2 t1 t2 t3:=by
 cases v with
 |rng a b c=>exact cxSP e r.inv
 |_=>first |exact aE e |cases e
def rOk(a b c:Int):ec:=decide (-1000000<a) && decide (a<1000000) && decide (-1000000<b) && decide (b<1000000) && (c==1 || c== -1)
def rLen(a b c:Int):Nat:=bif c==1 then(b-a).toNat else(a-b).toNat
theorem rSz(a b:Int):Builtin.Range.rangeSize a b 1=((b-a).toNat:Int):=by
 unfold Builtin.Range.rangeSize
 rw[ca (by decide)]
 by_cases q:a<b
 ·rw[ca q,Int.ediv_one,Int.sub_add_cancel]
  exact(Int.toNat_of_nonneg (h7 (jd q))).symm
 ·rw[bz q,Int.toNat_of_nonpos (Int.sub_nonpos_of_le (kz.mp q))];rfl
theorem rSzM(a b:Int):Builtin.Range.rangeSize a b (-1)=((a-b).toNat:Int):=by
 unfold Builtin.Range.rangeSize
 rw[bz (by decide),show-(-1:Int)=1 from rfl]
 by_cases q:b<a
 ·rw[ca q,Int.ediv_one,Int.sub_add_cancel]
  exact(Int.toNat_of_nonneg (h7 (jd q))).symm
 ·rw[bz q,Int.toNat_of_nonpos (Int.sub_nonpos_of_le (kz.mp q))];rfl
theorem yZ{a b:Int}(h:rOk a b c=be):Builtin.Range.rangeSize a b c=(rLen a b c:Int)/\Builtin.Range.small a b c=be/\rLen a b c<2000000:=by
 refine xAAAA ((by
  have h1:=du.mp h
  have f:=du.mp h1.1
  have g:=du.mp f.1
  have e:=du.mp g.1
  exact⟨cb e.1,cb e.2,cb g.2,cb f.2,(Bool.or_eq_true_iff.mp h1.2).imp se se⟩)) λh1 f g e i=>?_
 rcases i with rfl |rfl
 ·have d:=A10 h1 e
  refine⟨rSz a b,?_,d⟩
  unfold Builtin.Range.small
  rw[rSz]
  unfold Builtin.Range.rangeFitsLong
  simp;exact A11 f g d
 ·have d:=(by exact λ{a b}=>zzI 0x10941f61920f41f68a68044000a41f687b0ca0f450021dec3283d07da00087 [a,b] ⋯:∀{a:Int}{b:Int},a<(1000000:Int)->(-(1000000:Int))<b->(Int.toNat (a-b))<(2000000:Nat)) f g
  refine⟨rSzM a b,?_,d⟩
  unfold Builtin.Range.small
  rw[rSzM]
  unfold Builtin.Range.rangeFitsLong
  simp;exact (by exact λ{a b}=>zzI 0x4040404050281108881110215124a52120202020221110488a048408544a2a4848820820820820820820f41f69002a6822082082082082082083d142140f40f69a01083188820820820820820820f41f40f69a01080080f69a010a822082082082082082083d142148820820820820820820f41f69002a6822082082082082082083d142148820820820820820820f41f68002a2822082082082082082083d14214514507d86483d07da29a011000077b0ca0f41f690021e807da1ec3283d140087 [a,b] ⋯:∀{a:Int}{b:Int},(-(1000000:Int))<a->b<(1000000:Int)->(Int.toNat (a-b))<(2000000:Nat)->(((((-(9223372036854775808:Int))<=a)/\(a<(9223372036854775808:Int)))/\(((-(9223372036854775808:Int))<=b)/\(b<(9223372036854775808:Int))))/\(((-(9223372036854775808:Int))<=(max (a-b) (0:Int)))/\((max (a-b) (0:Int))<(9223372036854775808:Int))))/\(((max (a-b) (0:Int))=(0:Int))\/(((-(9223372036854775808:Int))<=b)/\(b<(9223372036854775808:Int))))) h1 e d
def iR(f:EF):Lo->MH->(Int×Nat×Int->MH->Prop)->Prop:=λlo H Q=>f lo H λv H1=>Lf v.rn λp=>rOk p.1 p.2.1 p.2.2=be/\Q (p.1,rLen p.1 p.2.1 p.2.2,p.2.2) H1
theorem IV.range(h:EV C r env e f):IV (kU C) r env e (iR f):=λn n n n n n l S F q=>h.run l S F q λS1 c j q=>q.elim λp i q=>by
  refine xAA (yZ q.1) λk1 k m=>pB (j.toRng i) λa t1 t2 t3 a g=>?_;subst a
  exact wpAny_pyIter_range g k (rwL k1 (yP.mk (S1.push _) (c.trans (.push _)) ⟨_,rfl,rfl,show IsRangeIter _ _ _ _ _ from Heap.get?_push_size _ rfl⟩ (λb d=>by exact rwL (show b=_ from d) (cP c S1 (aU _))) q.2))
theorem VRs.a1(r:VRs ρ h us [x]):∃ u,us= [u]/\VR ρ h u x:=by cases r with |cons a b=>cases b;exact⟨_,rfl,a⟩
theorem VRs.a2(r:VRs ρ h us [x,y]):∃ u v,us= [u,v]/\VR ρ h u x/\VR ρ h v y:=by cases r with |cons a b=>exact xEA b.a1 λv e c=>⟨_,v,by rw[e],a,c⟩
def Tis(vs:aq V):bc (aq Int):=vs.mapM Ti
theorem VRs.ints(r:VRs ρ h us vs)(e:Tis vs=am is):∃ a:aq Tok,a.length=is.length/\us=(is.zip a).map λx=>Value.int x.1 x.2:=zQ r e
theorem tcons{α:Type}{l:aq α}(e:l.length=n+1):∃ a t,l=a::t/\t.length=n:=by
 cases l with
 |nil=>exact bv e.symm (Nat.succ_ne_zero _)
 |cons a t=>exact⟨a,t,rfl,Nat.succ.inj e⟩
theorem ts2{a b:Int}(e:c.length= [a,b].length)(h:us=(([a,b]:aq Int).zip c).map λx=>Value.int x.1 x.2):∃ t u,us= [.int a t,.int b u]:=by
 refine jC (tcons e) λt l z f=>?_;subst z
 refine jC (tcons f) λu l z d=>?_;subst z
 exact⟨t,u,(rwR (ie d) h)⟩
theorem ts3{a b:Int}(e:d.length= [a,b,c].length)(h:us=(([a,b,c]:aq Int).zip d).map λx=>Value.int x.1 x.2):∃ t u v,us= [.int a t,.int b u,.int c v]:=by
 refine jC (tcons e) λt l z g=>?_;subst z
 refine jC (tcons g) λu l z i=>?_;subst z
 refine jC (tcons i) λv l z f=>?_;subst z
 exact⟨t,u,v,(rwR (ie f) h)⟩
theorem aEt{α β:Type}{F:aq α->bc β}{l:aq α}{b:β}(e:F l=am b)(h0:F []=ba)(h2:∀ a c t,F (a::c::t)=ba):∃ a,l= [a]:=by
 cases l with
 |nil=>cases (h0▸e)
 |cons a l=>cases l with
  |nil=>exact⟨_,rfl⟩
  |cons c l=>rw[h2]at e;cases e
theorem sZ{α β:Type}{F:aq α->bc β}{l:aq α}{b:β}(e:F l=am b)(h0:F []=ba)(h1:∀ a,F [a]=ba)(h2:∀ a c d t,F (a::c::d::t)=ba):∃ a c,l= [a,c]:=by
 cases l with
 |nil=>cases (h0▸e)
 |cons a l=>exact xEA (xE (aEt (F:=λl=>F (a::l)) e (h1 a) (h2 a)) λc e=>⟨c,e,trivial⟩) λc e q=>⟨a,c,by rw[e]⟩
theorem aEs{α β:Type}{F:aq α->bc β}{l:aq α}{b:β}(e:F l=am b)(h0:F []=ba)(h1:∀ a,F [a]=ba)(f:∀ a c,F [a,c]=ba)(h2:∀ a c d g t,F (a::c::d::g::t)=ba):∃ a c d,l= [a,c,d]:=by
 cases l with
 |nil=>cases (h0▸e)
 |cons a l=>exact xEE (sZ (F:=λl=>F (a::l)) e (h1 a) (f a) (h2 a)) λc d e=>⟨a,c,d,by rw[e]⟩
def rngF(H:MH)(is:aq Int):bc (V×MH):=match is with
 | [n]=>am (.rng 0 n 1,H)
 | [a,b]=>am (.rng a b 1,H)
 | [a,b,c]=>if c= -1 then am (.rng a b c,H) else ba
 |_=>ba
def gN:CF:=lf λvs H=>(Tis vs).bind (rngF H)
theorem l123{α β:Type}{F:aq α->bc β}{l:aq α}{b:β}(e:F l=am b)(h0:F []=ba)(f:∀ a c d g t,F (a::c::d::g::t)=ba):(∃ a,l= [a])\/(∃ a c,l= [a,c])\/∃ a c d,l= [a,c,d]:=by
 cases l with
 |nil=>cases (h0▸e)
 |cons a l=>cases l with
  |nil=>exact .inl ⟨_,rfl⟩
  |cons c l=>cases l with
   |nil=>exact .inr (.inl ⟨_,_,rfl⟩)
   |cons d l=>cases l with
    |nil=>exact .inr (.inr ⟨_,_,_,rfl⟩)
    |cons g l=>rw[f]at e;cases e
set_option tactic.hygienic true in
theorem CV.range:CV C r (.type "range") gN:=.of dT λ{A s ρ H f vs v H'} n S rs e=>by
 refine xEA (bn.mp e) λis m e=>xEA (rs.ints m) λts i k=>Or.elim (l123 e rfl λq q q q q=>rfl) (λz=>?_) λz=>Or.elim z (λz=>?_) λz=>?_
 ·refine xE z λa z=>?_;subst z;exact xE ((by
   intro g a f e h
   match g,e with
   | [t],_=>exact⟨t,h⟩:∀{g:aq Tok}{a:Int}{f:aq bt}(e:g.length= [a].length)(h:f=(([a]:aq Int).zip g).map λx=>Value.int x.1 x.2),∃ t,f= [.int a t]) i k) λt l=>rwL l (cxSP e (call_range_1 ⟨ρ,(S.push _).toks _,(Nx.push _).trans (.toks _),.rng (Heap.get?_push_size _ rfl)⟩))
 ·refine xEE z λa b z=>?_;subst z;exact xEE (ts2 i k) λt u d=>rwL d (cxSP e (call_range_2 ⟨ρ,(S.push _).toks _,(Nx.push _).trans (.toks _),.rng (Heap.get?_push_size _ rfl)⟩))
 ·refine uK z λa b c z=>?_;subst z;refine uK (ts3 i k) λt u w d=>rwL d ?_
  replace e:=show (if _ then _ else _)=_ from e
  split at e
  ·rename_i j
   subst j
   exact cxSP e (call_range_3 (by decide) ⟨ρ,(S.push _).toks _,(Nx.push _).trans (.toks _),.rng (Heap.get?_push_size _ rfl)⟩ (.inl (PyProof.noPylong_small (by decide))))
  ·exact aE e
theorem EPo.ext(S:Sim C H ρ s)(a:∀ b o,s.heap.get? b=am o->h'.get? b=am o)(rv:VR ρ s.heap x v):EPo C ρ s H v x {s with heap:=h',toks:=k}:=⟨ρ,S.ext a,.ext a,rv.mono (cc _) (dM a).im⟩
def one(vs:aq V):bc V:=match vs with | [v]=>am v |_=>ba
theorem jM(r:VRs ρ h us vs)(e:one vs=am v):∃ u,us= [u]/\VR ρ h u v:=by
 refine xE (aEt e rfl λq q q=>rfl) λa z=>?_;subst z;exact cxS e r.a1
def cLen:CF:=lf λvs H=>(one vs).bind λv=>(lst H v).bind λxs=>if xs.length<1000000 then am (.int xs.length,H) else ba
theorem CV.len:CV C r (.builtin "len") cLen:=.of cQ λ{A s ρ H i vs v H'} k S rs e=>by
 refine xEA (bn.mp e) λx h e=>xEA (bn.mp e) λxs c e=>xEA (jM rs h) λu a g=>rwL a ?_
 split at e
 ·first |exact aE e |cases e
  refine bM (b6 S g c) λad j b d f=>rwL b ?_
  have:=f.sz
  exact call_len_list d (by omega) (rwL this (.tok S (.int _ _)))
 ·first |exact aE e |cases e
def c2F(f:Int->Int->Int)(H:MH)(is:aq Int):bc (V×MH):=match is with | [a,b]=>am (.int (f a b),H) |_=>ba
def c2(f:Int->Int->Int):CF:=lf λvs H=>(Tis vs).bind (c2F f H)
theorem CV.c2(h:∀ {A:fq}{s:bo}{a b:Int}{t u:Tok}{Q:bt->bo->Prop},A.handled=ba->(∀ h' tk t,(∀ b o,s.heap.get? b=am o->h'.get? b=am o)->Q (.int (f a b) t) {s with heap:=h',toks:=tk})->
  bw C.M A (PySem.call (.builtin x) [.int a t,.int b u]) Q NoE s):CV C r (.builtin x) (c2 f):=CV.of cQ λ{A s ρ H l vs v H'} k S rs e=>by
 refine xEA (bn.mp e) λis g e=>xEA (rs.ints g) λts d i=>xEE (sZ e rfl (λq=>rfl) λq q q q=>rfl) λa b z=>?_;subst z
 exact xEE (ts2 d i) λt u c=>rwL c (cxSP e (h k.1 λh' tk t j=>.ext S j (.int _ _)))
def q6:CF:=c2 max
theorem CV.max:CV C r (.builtin "max") q6:=CV.c2 λ{A s a b t u Q} d k=>max_two_ints d λh' tk c=>by
 by_cases q:b>a
 ·rw[ca q];have:=k h' tk u c;rwa [ry (jd q)]at this
 ·rw[bz q];have:=k h' tk t c;rwa [oh (kz.mp q)]at this
def yH:CF:=c2 min
theorem CV.min:CV C r (.builtin "min") yH:=CV.c2 λ{A s a b t u Q} d k=>min_two_ints d λh' tk c=>by
 by_cases q:b<a
 ·rw[ca q];have:=k h' tk u c;rwa [m3 (jd q)]at this
 ·rw[bz q];have:=k h' tk t c;rwa [su (kz.mp q)]at this
def yG:CF:=lf λvs H=>(one vs).bind λv=>(lst H v).bind λxs=>(m6 xs).map λis=>(.int is.sum,H)
theorem CV.sum:CV C r (.builtin "sum") yG:=.of cQ λ{A s ρ H p vs v H'} o S rs e=>by
 refine xEA (bn.mp e) λx m e=>xEA (bn.mp e) λxs g e=>xEA (dy.mp e) λis h e=>cxP e (xEA (jM rs m) λu f k=>rwL f ?_)
 refine bM (b6 S k g) λad n a i j=>rwL a ?_
 refine xEA (zQ j h) λts b c=>?_
 have d:n=intItems (is.zip ts).toArray:=by
  apply Array.toList_inj.mp
  rw[c]
  simp [intItems]
 refine sum_intListG o.1 (rwR d i) λh' tk q l=>?_
 have:preSum (numAt (is.zip ts).toArray) (is.zip ts).toArray.size=is.sum:=by
  rw[preSum_eq,og (by simp)]
  congr 1
  rw[List.map_fst_zip (Nat.le_of_eq b.symm)]
 exact rwL this (.ext S l (.int _ _))
def cSet:CF:=lf λvs H=>if vs.isEmpty then am (.ref H.length,H++[.eset]) else ba
set_option tactic.hygienic true in
theorem CV.set:CV C r (.type "set") cSet:=.of dT λ{A s ρ H a vs v H'} b S rs e=>by
 split at e
 ·first |exact aE e |cases e
  cases rs with
  |nil=>exact call_set_0 λled=>⟨_,S.alloc _ .eset ⟨rfl,rfl,_,_,Heap.get?_push_size _ rfl,by cases led<;>decide⟩,.alloc _,VR.ref S.last⟩
  |cons _ _=>rename_i h;cases h
 ·first |exact aE e |cases e
theorem Sim.grown(S:Sim C H ρ s)(d:∀ b o,s.heap.get? b=am o->h'.get? b=am o)(a:IsL h' s.heap.objs.size xs n)(c:VRs ρ h' xs.toList vs):EPo C ρ s (H++[.list vs]) (.ref H.length) (.ref s.heap.objs.size) {s with heap:=h',toks:=k}:=let g:=S.grow (l:=⟨s.heap.objs.size,s.heap.objs.size,ba⟩) (m:=.list vs) d (aU _) (aU _) rfl ⟨rfl,rfl,xs,n,a,c.mono (gy _ _) (.snoc a (by simp [qV]))⟩
 ⟨_,g.1,g.2 _,VR.ref S.last⟩
def mZ(a c:Int):Nat->aq V
 |0=>[]
 |n+1=>.int a::mZ (a+c) c n
theorem u9:∀ (n:Nat) (a c:Int) (us:aq bt),us.length=n->(∀ (i:Nat) (u:bt),us[i]? =am u->∃ t,u=Value.int (a+(i:Int)*c) t)->VRs ρ h us (mZ a c n)
 |0,a,c,[],_,_=>VRs.nil
 |0,a,c,_::_,b,_=>by simp at b
 |n+1,a,c,[],b,_=>by simp at b
 |n+1,a,c,u::us,b,d=>by
  refine xE (d 0 u rfl) λt e=>?_
  simp at e
  refine rwL e (VRs.cons (VR.int _ _) (u9 n (a+c) c us (by simpa using b) λi u h=>(xE (d (i+1) u (by simpa using h)) λt e=>⟨t,e.trans ?_⟩)))
  congr 1
  rw[me]
  congr 1
  simp only[Int.natCast_add,Int.add_mul]
  omega
def aGt(vs:aq V)(H:MH):bc (V×MH):=(one vs).bind λv=>match v.rn with
 |some p=>if rOk p.1 p.2.1 p.2.2 then mkL (mZ p.1 p.2.2 (rLen p.1 p.2.1 p.2.2)) H else ba
 |none=>(lst H v).bind λxs=>mkL xs H
def cList:CF:=lf aGt
set_option tactic.hygienic true in
theorem aIp(y:Room r A)(S:Sim C H ρ s)(rs:VRs ρ s.heap us vs)(e:aGt vs H=am (v,H')):bw C.M A (PySem.call (.type "list") us) (EPo C ρ s H' v) NoE s:=by
 refine xEA (bn.mp e) λx x e=>xEA (jM rs x) λu f k=>rwL f ?_
 split at e
 ·rename_i p I
  split at e
  ·rename_i j
   refine jN e λhlen e=>?_
   cases e
   refine xAA (yZ j) λk1 E J=>pB (k.toRng I) λa t1 t2 t3 c g=>?_;subst c
   exact call_list_range y.1 g E k1 (by omega) λh' tk l t b G a=>S.grown b G (u9 _ _ _ _ (by simpa using a.1) λi u F=>a.2 i u (by simpa using F))
  ·first |exact aE e |cases e
 ·refine xEA (bn.mp e) λxs B e=>jN e λhlen e=>?_
  cases e
  refine bM (b6 S k B) λad K h d m=>?_;subst h;obtain⟨o,w,D,n,z⟩:=d
  exact call_list_seq ad (.inl rfl) w D z (λh' t b q=>S.grown b q (m.mono (cc _) (dM b).im)) (by exact rwL ez (zzM2 0x950820820f69028a411dec3283d07da00007 [xs.length,K.size] ⋯ hlen m.sz))
theorem CV.list:CV C r (.type "list") cList:=.of dT aIp
theorem yM(a b n:Nat)(d:a<=b)(c:b<=n):Builtin.Slice.sliceAdjust (am (a:Int)) (am (b:Int)) 1 (n:Int)=((a:Int),(b:Int)):=by
 unfold Builtin.Slice.sliceAdjust
 simp only[A13,A14,A14,pg]
 congr 1<;>omega
theorem w7(a b:Nat)(c:a<=b):Builtin.Slice.slicePlaces (a:Int) (b:Int) 1=b-a:=by
 unfold Builtin.Slice.slicePlaces
 simp only[A15,vx,Int.ediv_one]
 split<;>omega
theorem mD{a b:Nat}(hs:s.heap.IsSliceOf sl (.int a u) (.int b d) .none)(e:a<=b)(g:b<=n)(h:Q ((a:Int),1,b-a) s):bw (ir prog w) A (Builtin.Slice.sliceApplied (.ref sl) (pure (n:Int))) Q E s:=by
 exact c6 (id hs) λos c f hds=>zzB (zzB (gx c hds (x:=.int a u) rfl (zzB (gx c hds (x:=.int b d) rfl (zzB (gx c hds rfl (zzP (zzB (slicePart_none (rwL (bz (by decide)) (zzB (slicePart_int (zzB (slicePart_int (zzB (zzP (rwL (yM a b n e g) (rwL (w7 a b e) (zzP h):bw _ _ (pure ((a:Int),(1:Int),Builtin.Slice.slicePlaces (a:Int) (b:Int) 1)) _ _ s):bw _ _ (match Builtin.Slice.sliceAdjust (am (a:Int)) (am (b:Int)) 1 (n:Int) with | (lo,i)=>pure (lo,(1:Int),Builtin.Slice.slicePlaces lo i 1)) _ _ s)))))))))))))))))
theorem lQ{a b:Nat}(g:IsTup s.heap t c)(hs:s.heap.IsSliceOf sl (.int a u) (.int b r) .none)(h1:1<=a)(i:a<=b)(q:b<=c.size)(h:Q (.ref s.heap.objs.size) {s with heap:=s.heap.push {cls:=.type "tuple",data:=.seq ((c.toList.drop a).take (b-a)).toArray}})(m:c.size<=ur):bw (ir prog w) A (qw (.ref t) (.ref sl)) Q E s:=by
 have d:sizeOk (.seq ((c.toList.drop a).take (b-a)).toArray):=by
  show((c.toList.drop a).take (b-a)).toArray.size<=ur
  exact rwL tu (rwL sM (rwL mB (rwL Array.length_toList (A16 m))))
 refine c6 (id hs) λos n l hds=>?_
 delta qw
 try with_reducible refine bx ?_
 first |refine zzB (zzP ?_) |skip
 refine zzB (wpAny_sequenceKey g.typeIs (by decide) ?_)
 refine zzB (e8 g.typeIs pq
  (fu pq g.typeIs entry_tuple_getitem ?_ (args_tuple_getitem _ _)))
 show bw _ _ (Builtin.Tuple.tupleItemsOf (.ref t) >>=_) _ _ s
 refine zzB (tupleItemsOf_ g (zzB (tw ⟨os,n,l⟩ (rwL (ca (by decide)) (zzB (mD hs i q ?_))))))
 have o: ¬(((a:Int)==0 && (1:Int)==1 && (b-a)==c.size)=be):=by
  have:((a:Int)==0)=false:=by rw[pd];exact A17 h1
  rw[this];simp
 refine(?_:bw _ _ (if ((a:Int)==0 && (1:Int)==1 && (b-a)==c.size)=be then _ else _) _ _ s)
 rw[bz o,(by
  intro f a k
  have e:(fun(k:Nat)=>f[((a:Int)+(k:Int)*1).toNat]?)=λk=>f[a+k]? :=by
   funext k
   rw[(by omega:((a:Int)+(k:Int)*1).toNat=a+k)]
  rw[e]
  have:=pick_run f a k
  rw[List.filterMap_map]at this
  have p:((λx=>f[x]?)∘λx=>a+x)=λk=>f[a+k]? :=rfl
  rw[p]at this
  rw[this]:∀(f:jf bt)(a k:Nat),((List.range k).filterMap fun(j:Nat)=>f[((a:Int)+(j:Int)*1).toNat]?).toArray=((f.toList.drop a).take k).toArray) c a (b-a)]
 first
  |exact zzB (fv (zzP ⟨_,rfl,zzP h⟩) d)
  |exact zzB (fv (zzB (zzP (zzP ⟨_,rfl,zzP h⟩))) d)
  |exact zzB (zzB (fv (zzP (zzP ⟨_,rfl,zzP h⟩)) d))
  |exact zzB (zzB (fv (zzP ⟨_,rfl,zzP h⟩) d))
def PV(C:Cx)(r:Nat)(env:Env)(e:bc Expr)(f:EF):Prop:=∀ ⦃A:fq⦄⦃s:bo⦄⦃ρ:aq Lc⦄⦃H:MH⦄⦃lo:Lo⦄⦃Q:EK⦄,Room r A->Sim C H ρ s->Fm C env ρ s lo->f lo H Q->
  bw C.M A (evalPart e env) (bQ C ρ s Q) NoE s
theorem PV.none:PV C r env Option.none (eK .none):=λa a a a a a a S a q=>zzP (.here S .none q)
theorem PV.some(h:EV C r env e f):PV C r env (Option.some e) f:=h
def prt:V->bc (bc Int)
 | .none=>am ba
 | .int i=>am (am i)
 |_=>ba
theorem w6(r:VR ρ h u v)(e:prt v=am p):wd u p:=by
 cases v with
 |none=>refine cxS e ?_;cases(show u= .none from r.inv);exact .none
 |int=>exact cxS e (xE r.inv λt a=>rwL a (.int _ _))
 |_=>first |exact aE e |cases e
def y6(vs:aq V)(lo hi st:bc Int):aq V:=(sliceRange (qX lo hi st vs.length).1 (qX lo hi st vs.length).2.1 (qX lo hi st vs.length).2.2).filterMap (vs[·]?)
theorem VRs.pick(rs:VRs ρ h us vs):∀ a:aq Nat,VRs ρ h (a.filterMap (us[·]?)) (a.filterMap (vs[·]?))
 | []=>.nil
 |i::a=>by
  simp only[qe]
  cases b:vs[i]? with
  |none=>
   have:us[i]? =ba:=by
    rw[getElem?_eq_none_iff]at b ⊢;exact rwL rs.length b
   exact rwL this (rs.pick a)
  |some v=>
   exact xEA (rs.get b) λu c d=>rwL c (.cons d (rs.pick a))
def slcT(vs:aq V)(lo hi st:bc Int):bc (aq V):=match lo,hi,st with
 |some a,am b,ba=>if 1<=a/\a<=b/\b<=vs.length/\vs.length<1000 then am ((vs.drop a.toNat).take (b.toNat-a.toNat)) else ba
 |some a,ba,ba=>if 1<=a/\a<=vs.length/\vs.length<1000 then am (vs.drop a.toNat) else ba
 |_,_,_=>ba
def slc(v:V)(lo hi st:bc Int)(H:MH):bc (V×MH):=match v.tp with
 |some vs=>(slcT vs lo hi st).map λws=>(.tup ws,H)
 |none=>(lst H v).bind λvs=>if vs.length<1000000/\st≠am 0 then mkL (y6 vs lo hi st) H else ba
def eX(f f1 f2 f3:EF):EF:=λlo H Q=>f lo H λv H0=>f1 lo H0 λa H1=>f2 lo H1 λb H2=>f3 lo H2 λc H3=>Lf (prt a) λpa=>Lf (prt b) λpb=>Lf (prt c) λpc=>Lp (slc v pa pb pc H3) Q
set_option tactic.hygienic true in
theorem aHo{h:kh}{a b:bt}(o:IsTup s.heap t f)(hs:s.heap.IsSliceOf sl a b c)(rs:VRs ρ s.heap f.toList vs)(p1:wd a n)(p2:wd b m)(p3:wd c q)(e:slcT vs n m q=am ws)(k:∀ p:aq bt,VRs ρ s.heap p ws->Q (.ref s.heap.objs.size) {s with heap:=s.heap.push {cls:=.type "tuple",data:=.seq p.toArray}}):bw (ir prog w) A (qw (.ref t) (.ref sl)) Q E s:=by
 have g:=rs.sz
 unfold slcT at e
 split at e
 ·rename_i r b'
  split at e
  ·rename_i d
   refine cyS e λzq=>?_;subst zq
   cases p1;cases p2;cases p3
   refine xE (jp (A18 d)) λa0 i=>?_;subst i
   refine xE (jp (A19 d)) λb0 l=>?_;subst l
   exact lQ o hs (zzM1 0x21a01f407e8f41f6a000a2a128a44085a29128a04085a28101f42147 [a0,b0,vs.length] ⋯ d) (zzM1 0x8a9a007e8f41f6a000a2a128a44085a29128a04085a28101f42147 [a0,b0,vs.length] ⋯ d) (zzM2 0x48a8ac07e8f41f69000a29128ac4085a2b128a84085a2a101f42147a68047 [f.size,vs.length,a0,b0] ⋯ g d) (k _ ((rs.drop a0).take (b0-a0))) (by exact rwL ez (zzM2 0x14142082083da007e8f41f69000a29128ac4085a2b128a84085a2a101f42147a68047 [f.size,vs.length,a0,b0] ⋯ g d))
  ·first |exact aE e |cases e
 ·rename_i r
  split at e
  ·rename_i d
   refine cyS e λzq=>?_;subst zq
   cases p1;cases p2;cases p3
   refine xE (jp (A24 d)) λa0 j=>?_;subst j
   exact getItem_tuple_from o hs (zzM1 0x11a01f407e8f41f69000a29128a04085a28101f42147 [a0,vs.length] ⋯ d) (zzM2 0x24a8a807e8f41f69000a29128a84085a2a101f42147a68047 [f.size,vs.length,a0] ⋯ g d) (k _ (rs.drop a0)) (by exact rwL ez (zzM2 0xa142082083da007e8f41f69000a29128a84085a2a101f42147a68047 [f.size,vs.length,a0] ⋯ g d))
  ·first |exact aE e |cases e
 ·first |exact aE e |cases e
set_option tactic.hygienic true in
theorem vV{a b:bt}(i:Sim C H ρ s1)(z:Nx ρ noW s ρ s1)(r1:VR ρ s1.heap o v)(f:s1.heap.IsSliceOf sl a b c)(p1:wd a q)(p2:wd b p)(p3:wd c w)(e:slc v q p w H=am (x,H')):∃ T id,s1.TypeIs o T/\g4 (.type T) "__getitem__" =pure (am (.builtin id))/\bw C.M A (qw o (.ref sl)) (EPo C ρ s H' x) NoE s1:=by
 unfold slc at e
 split at e
 ·rename_i vs k
  obtain⟨t,r,n,_,j,g,_,rs⟩:=r1.toTup k;subst j
  refine xEA (dy.mp e) λws B E=>cxP E ?_
  have u:IsTup s1.heap t r:=⟨_,g,rfl,n,rfl⟩
  exact⟨"tuple",_,u.typeIs,pq.lookup,aHo (h:=s1.heap) u f rs p1 p2 p3 B λys D=>⟨ρ,i.push _,z.trans (.push _),.tup (Heap.get?_push_size _ rfl) (i.nown (aU _)) (D.mono (cc _) (fY _ _).im)⟩⟩
 ·refine xEA (bn.mp e) λvs F e=>?_
  split at e
  ·rename_i d
   refine jN e λG e=>?_
   cases e
   refine bM (b6 i r1 F) λad r m y l=>?_;subst m
   refine⟨"list",_,y.typeIs,list_getitem_lookup,wpAny_getItem_list_slice y f p1 p2 p3 d.2 ((i.newList ?_).from z) (by exact rwL ez (zzM2 0x950820820f69028a411dec3283d07da00007 [vs.length,r.size] ⋯ d.1 l.sz))⟩
   unfold slicePick y6
   rw[l.sz]
   simpa using l.pick _
  ·first |exact aE e |cases e
theorem mW{st:bc Expr}(h:EV C r env e f)(h1:PV C r env l f1)(h2:PV C r env u f2)(B:PV C r env st f3)(g:Room r A)(S:Sim C H ρ s)(F:Fm C env ρ s lo)(q:eX f f1 f2 f3 lo H Q):bw C.M A (jc e env) (λo b=>bw C.M A (jc (.Slice l u st p) env) (λi a=>∃ T id,a.TypeIs o T/\g4 (.type T) "__getitem__" =pure (am (.builtin id))/\bw C.M A (qw o i) (bQ C ρ s Q) NoE a) NoE b) NoE s:=h.run g S F q λS1 j v q=>wpAny_Slice (bQ.run (h1 g S1 (F.nx j) q) λS2 d z q=>bQ.run (h2 g S2 ((F.nx j).nx d) q) λS3 k x q=>bQ.run (B g S3 (((F.nx j).nx d).nx k) q) λ{c O n L N} y m t q=>
  q.elim λpa G q=>q.elim λpb D q=>q.elim λpc E q=>q.elim λp K q=>by
   exact bM (vV (A:=A) (y.push _) (.push _) ((((v.nx d).nx k).nx m).mono (cc _) (fY _ _).im) (Heap.IsSliceOf.new ..) (w6 z G) (w6 x D) (w6 t E) K) λT id J I w=>⟨T,id,J,I,wmN w λP P p=>(p.from (j.trans (d.trans (k.trans m)))).post q⟩)
theorem pJ{a:bo}(h:∃ T id,a.TypeIs o T/\g4 (.type T) "__getitem__" =pure (am (.builtin id))/\bw C.M A (qw o i) P NoE a):bw C.M A (operate ops (qw o i)) (λr b=>bw C.M A (on e o r >>=λq=>pure r) P NoE b) NoE a:=let ⟨_,_,_,_,c⟩:=h
 wpAny_operating (f4 c (λr b d=>zzB (ut (zzP d))) λq q x=>x)
theorem EV.slice(h:EV C r env e f)(h1:PV C r env l f1)(h2:PV C r env u f2):EV C r env (.Subscript e (.Slice l u Option.none p) pos) (eX f f1 f2 (eK .none)):=by
 intro A s ρ H lo Q k S F q
 rw[eval_Subscript]
 refine zzB (f4 (mW h h1 h2 PV.none k S F q) (λo d c=>zzB (bx (f4 c (λi g a=>zzB (f5 ?_)) λm m x=>x)))
  λm m x=>x)
 have b:=pJ (e:=e) (ops:=[i,o]) a
 refine bM a λT id hT j m=>zzB (rwL (uo hT.not_modules) (zzB (pn hT j ?_)))
 first
  |exact zzP (zzB b)
  |exact zzB (zzP (zzB b))
  |exact zzB b
theorem EV.slice3{st:Expr}(h:EV C r env e f)(h1:PV C r env l f1)(h2:PV C r env u f2)(k:EV C r env st f3):EV C r env (.Subscript e (.Slice l u (am st) p) pos) (eX f f1 f2 f3):=by
 intro A s ρ H lo Q m S F q
 rw[eval_Subscript]
 refine zzB (f4 (mW (st:=am st) h h1 h2 k m S F q) (λo d c=>zzB (bx (f4 c (λi g a=>zzB (f5 ?_)) λn n x=>x)))
  λn n x=>x)
 have b:=pJ (e:=e) (ops:=[o,i]) a
 refine bM a λT id hT j n=>zzB (rwL (uo hT.not_modules) (zzB (pn hT j ?_)))
 first
  |exact zzP (zzB b)
  |exact zzB (zzP (zzB b))
  |exact zzB b
open PySem PySem.W PyProof.Rows PySem.Calls PyProof
def PyData.kids:mc->bc (ec×aq mc) | .tuple xs=>am (be,xs) | .list xs=>am (false,xs) |_=>ba
def inB(H:MH)(a b:V):bc ec:=(rd H eqD a).bind λd=>((rd H eqD b).bind PyData.kids).bind λp=>if PyData.canLayAll0 p.2 && d.canLay0 && decide (d.depth<50) then am (p.2.any λy=>PyData.eqv y d) else ba
def oIn(f:ec->ec):OpF:=λa b H=>(inB H a b).map λt=>(.bool (f t),H)
theorem Room.deep(h:Room r A)(a:m<50):A.units+1+min n m<cLine:=by
 exact(zzM2 0xaa949d6cf41f68ac307da40000007ea0f6a068fa90001c1cbd07da00007 [m,A.units,r,n] ⋯ a h.2.2:_<9900)
theorem aIs(e:PyData.kids d=am (t,xs)):d=bif t then .tuple xs else .list xs:=by
 cases d with
 |tuple a=>refine cxSP e ?_;rfl
 |list a=>refine cxSP e ?_;rfl
 |_=>first |exact aE e |cases e
set_option tactic.hygienic true in
theorem OpR.in2(h1:∀ {A:fq}{s:bo}{a b:bt}{d:mc}{xs:aq mc}{c bs:aq d3}{Q:bt->bo->Prop},wh s.heap b (.tuple xs) bs->wh s.heap a d c->PyData.canLayAll0 xs=be->d.canLay0=be->(∀ n,A.units+1+min n d.depth<cLine)->Q (.bool (f (xs.any λy=>PyData.eqv y d))) s->bw C.M A (op a b) Q NoE s)(h2:∀ {A:fq}{s:bo}{a b:bt}{d:mc}{xs:aq mc}{c bs:aq d3}{Q:bt->bo->Prop},wh s.heap b (.list xs) bs->wh s.heap a d c->PyData.canLayAll0 xs=be->d.canLay0=be->(∀ n,A.units+1+min n d.depth<cLine)->Q (.bool (f (xs.any λy=>PyData.eqv y d))) s->bw C.M A (op a b) Q NoE s):OpR C r op (oIn f):=by
 refine OpR.of ?_
 intro A s ρ H a b w u v H' j S p k e
 refine xEA (dy.mp e) λt e q=>xEA (bn.mp e) λd o e=>xEA (bn.mp e) λz64 m e=>?_;obtain⟨l,xs⟩:=z64
 refine xEA (bn.mp m) λd2 h t=>?_
 split at e
 ·rename_i hs
  refine xE (hN S _ p o) λas i=>xE (hN S _ k h) λbs g=>?_
  rw[aIs t]at g
  refine cyS e λzq=>?_;subst zq
  refine cxP q ?_
  simp only[Bool.and_eq_true,decide_eq_true_eq]at hs
  cases l with
  |true=>exact h1 g i hs.1.1 hs.1.2 (λn=>j.deep hs.2) (.here S (.bool _))
  |false=>exact h2 g i hs.1.1 hs.1.2 (λn=>j.deep hs.2) (.here S (.bool _))
 ·first |exact aE e |cases e
theorem OpR.in_:OpR C r (jo .In) (oIn id):=OpR.in2 (λr2 a b c d q=>PySem.SeqAt.in_tuple_reads r2 a b c (d _) q) λr2 a b c d q=>PySem.SeqAt.in_list_reads r2 a b c (d _) q
theorem OpR.notIn:OpR C r (jo .NotIn) (oIn not):=OpR.in2 (λr2 a b c d q=>PySem.SeqAt.notIn_tuple_reads r2 a b c (d _) q) λr2 a b c d q=>PySem.SeqAt.notIn_list_reads r2 a b c (d _) q
def V.no:V->ec | .none=>be |_=>false
theorem VR.noT(r:VR ρ h u v)(e:v.no=be):u= .none:=by
 cases v with
 |none=>exact r.inv
 |_=>first |exact aE e |cases e
theorem VR.noF(r:VR ρ h u v)(e:v.no=false):u≠ .none:=by
 rintro rfl
 cases v with
 |none=>cases e
 |bool=>exact Value.noConfusion r.inv
 |int=>exact xE r.inv λq h=>Value.noConfusion h
 |str=>exact xE r.inv λq h=>Value.noConfusion h
 |tup=>exact i6 r.inv λq q q h q=>Value.noConfusion h
 |mat=>exact k9 r.inv λq q q q q q h q=>Value.noConfusion h
 |ref=>exact xEA r.inv λq h q=>Value.noConfusion h
 |dget=>exact jC r.inv λq q h q=>Value.noConfusion h
 |scon=>exact jC r.inv λq q h q=>Value.noConfusion h
 |rng=>exact pB r.inv λq q q q h q=>Value.noConfusion h
 |raw=>exact Value.noConfusion r.inv
def isV(a b:V)(H:MH):bc ec:=bif b.no then am a.no else b.rf.bind λj=>bif a.no then am false else a.rf.bind λi=>if i=j then am be else(lst H a).map λq=>false
theorem aDi{j:Nat}{b:Lc}(S:Sim C H ρ s)(f:ρ[i]? =am b)(d:ρ[j]? =am c)(h:i≠j):b.a≠c.a:=λe=>S.disj i j b c f d h b.a (.inl rfl) (.inl e)
def IsR(M:wg)(A:fq)(a b:bt)(t:ec)(s:bo):Prop:=∀ Q:bt->bo->Prop,(Q (.bool t) s->bw M A (jo .Is a b) Q NoE s)/\(Q (.bool (!t)) s->bw M A (jo .IsNot a b) Q NoE s)
set_option tactic.hygienic true in
theorem is_ok{a b:bt}(S:Sim C H ρ s)(ra:VR ρ s.heap a k)(rb:VR ρ s.heap b m)(e:isV k m H=am t):IsR C.M A a b t s:=by
 unfold isV at e
 cases p:m.no with
 |true=>
  rw[p]at e
  rw[rb.noT p]
  cases c:k.no with
  |true=>rw[c]at e;exact cxS e (rwL (ra.noT c) (λQ=>⟨λh=>wpAny_is_self rfl h,λh=>wpAny_isNot_self rfl h⟩))
  |false=>rw[c]at e;exact cxS e (λQ=>⟨λh=>is_none_ne (ra.noF c) h,λh=>isnot_none_ne (ra.noF c) h⟩)
 |false=>
  rw[p]at e
  refine xEA (bn.mp e) λj v e=>c6 (rb.toRef v) λlj D n g=>rwL n ?_
  cases c:k.no with
  |true=>rw[c]at e;exact cxS e (rwL (ra.noT c) (λQ=>⟨λh=>wpAny_is_other rfl (by intro x;cases x) h,λh=>wpAny_isNot_other rfl (by intro x;cases x) h⟩))
  |false=>
   rw[c]at e
   refine xEA (bn.mp e) λi z e=>c6 (ra.toRef z) λli D f l=>?_
   split at e
   ·rename_i d
    refine cxS e ?_
    subst d
    refine cyS (g▸l) λzq=>?_;subst zq
    exact rwL f (λQ=>⟨λh=>wpAny_is_ref_self h,λh=>wpAny_isNot_ref_self h⟩)
   ·rename_i d
    refine xEA (dy.mp e) λvs w e=>rwR e (bM (b6 S ra w) λad B u q D=>?_);obtain⟨o,r,y,_⟩:=q
    subst f
    cases u
    refine xA (S.live g) λz67 D=>xEA z67 λoj j D=>?_
    have i:o.cls≠ .type "tuple" :=by rw[y];intro x;injection x with x;revert x;decide
    exact λQ=>⟨λh=>wpAny_is_ref_other (aDi S l g d) r j i h,λh=>wpAny_isNot_ref_other (aDi S l g d) r j i h⟩
def oIs(f:ec->ec):OpF:=λa b H=>(isV a b H).map λt=>(.bool (f t),H)
theorem OpR.is_:OpR C r (jo .Is) (oIs id):=OpR.of λhr S b c e=>by
 exact xEA (dy.mp e) λt a e=>cxP e ((is_ok S b c a _).1 (.here S (.bool _)))
theorem OpR.isNot:OpR C r (jo .IsNot) (oIs not):=OpR.of λhr S b c e=>by
 exact xEA (dy.mp e) λt a e=>cxP e ((is_ok S b c a _).2 (.here S (.bool _)))
def Tb(v:V):bc ec:=match v with | .bool b=>am b |_=>ba
theorem VR.tb{b:ec}(r:VR ρ h u v)(e:Tb v=am b):u= .bool b:=by
 cases r with
 |bool=>refine cxS e ?_;rfl
 |_=>first |exact aE e |cases e
def tCh(g1 g2:OpF)(f0 f1 f2:EF):TF:=λlo H Q=>f0 lo H λa H0=>f1 lo H0 λb H1=>Lp (g1 a b H1) λc H2=>Lf (Tb c) λt=>bif t then f2 lo H2 λc H3=>Lp (g2 b c H3) λd H4=>Lf (Tb d) λt=>Q t H4 else Q false H2
theorem TV.chain{a b:CmpOp}(h0:EV C r env e0 j)(h1:EV C r env g f1)(h2:EV C r env h f2)(o1:OpR C r (jo a) k)(o2:OpR C r (jo b) n)(w:lastMarks [a,b] [g,h]=false):TV C r env (.Compare e0 [a,b] [g,h] pos) (tCh k n j f1 f2):=λx x x x x x c S F q=>isTrue_chain (h0.run c S F q λS1 f s q=>test_link (h1.run c S1 (F.nx f) q λS2 e l q=>bQ.run (o1 c S2 (s.nx e) l q) λS3 d v q=>q.elim λt i q=>by
  refine rwL (v.tb i) (pX ?_)
  cases t with
  |false=>exact⟨S3,f.trans (e.trans d),q⟩
  |true=>exact test_last (h2.run c S3 (((F.nx f).nx e).nx d) q λS4 m p q=>bQ.run (o2 c S4 ((l.nx d).nx m) p q) λS5 u o q=>q.elim λt i q=>by
    exact rwL (o.tb i) (pX ⟨S5,f.trans (e.trans (d.trans (m.trans u))),q⟩)))) w
def fA:aq (Str×d3):=[("__init__",160),("set_seqs",167),("set_seq1",174),("set_seq2",181),("_SequenceMatcher__chain_b",188),("find_longest_match",196),("get_matching_blocks",203),("get_opcodes",210),("get_grouped_opcodes",218)]
structure SMC(C:Cx):Prop where
 cls:∃ nm q bs sn sub col dd k0 k1 k2 k3 k5,C.base.heap.get? d7=am (excClassObj nm q d7 241 bs [.type "object"] be sn sub false col dd k0 k1 k2 k3 k5 "object.__new__")
 ns:∃ mN,C.base.heap.Ns 241 mN/\(∀ x∈dD,mN x=ba)/\mN "__getattribute__" =ba/\mN "__getattr__" =ba/\mN "__setattr__" =ba/\∀ p∈fA,mN p.1=am (.ref p.2)
 fn:∀ p∈fA,∃ o,C.base.heap.get? p.2=am o/\o.cls= .type "function"
theorem vD:∀ x∈dD,g4 (.type "object") x=pure ba:=by
 intro x a
 simp only[dD,e6,dz,vz]at a
 rcases a with rfl |rfl |rfl |rfl |rfl |rfl |rfl |rfl |rfl |rfl<;>(rw[fx,dx];kernel_rfl)
theorem aDq:∀ p∈fA,∃ y,g4 (.type "object") p.1=pure y:=by
 intro p a
 simp only[fA,e6,dz,vz]at a
 rcases a with rfl |rfl |rfl |rfl |rfl |rfl |rfl |rfl |rfl
 ·exact⟨am (.builtin "object.__init__"),by rw[fx,dx];kernel_rfl⟩
 all_goals exact⟨ba,by rw[fx,dx];kernel_rfl⟩
theorem tB{i:Nat}(S:Sim C H ρ s)(e:ρ[i]? =am l)(f:H[i]? =am (.inst fs)):∃ m,s.heap.InstFk l.a d7 m/\Within m dD/\∀ x,OV ρ s.heap (m x) (fs x):=by
 refine pC (S.objs i _ l f e) λg r b m c j p t=>xEAAA b λo g k n h=>?_
 exact⟨m,⟨o,g,k,(λc=>by rw[n];intro q;cases q),.inr ⟨l.d,h,r,c,j⟩⟩,p,t⟩
theorem VR.handed(rv:VR ρ h u v):handedOut u=pure u:=by
 cases rv<;>rfl
def MO.ins:MO->bc (Str->bc V) | .inst fs=>am fs |_=>ba
theorem aE3(e:m.bind MO.ins=am fs):m=am (.inst fs):=by
 refine xEA (bn.mp e) λm a b=>rwL a ?_
 cases m with
 |inst f=>refine cxS b ?_;rfl
 |_=>cases b
def eP(x:Str)(f:EF):EF:=λlo H Q=>f lo H λa H1=>Lf a.rf λi=>Lf (H1[i]?.bind MO.ins) λfs=>Lf (fs x) λv=>Q v H1
theorem dN(b:kg e x env (jc e env)=jc e env)(h:bw (ir prog w) A (jc e env) (λo s1=>bw (ir prog w) A (uX o x be) Q E s1) E s):bw (ir prog w) A (jc (.Attribute e x pos) env) Q E s:=by
 show bw (ir prog w) A (do
  let o<-kg e x env (jc e env)
  wk pos.atName
  let r<-sx [o] (uX o x be)
  on e o r
  pure r) _ _ s
 exact rwL b (zzB (f4 h (λo s1 a=>(zzB (f5 (zzB (bx (f4 a (λy s2 p=>(zzB (ut (zzP p)))) λq q z=>z)))))) λq q z=>z))
theorem EV.attr(K:SMC C)(c:x∈dD)(h:EV C r env e f)(T:kg e x env (jc e env)=jc e env)(ht:∀ o y,on e o y=pure ()):EV C r env (.Attribute e x pos) (eP x f):=λ_ _ _ _ _ _ R S F q=>dN T (h.run R S F q λS1 P Q q=>q.elim λi U q=>q.elim λfs Z q=>q.elim λv hv q=>by
  refine c6 (Q.toRef U) λl _ w g=>rwL w ?_
  exact (by
   intro C A s ρ H i l fs x v b K E KK c S B D hv k
   refine c6 (tB S B D) λm I W O=>gY KK.cls λnm q bs sn ac N dd k0 k1 k2 k3 k5 X=>r8 KK.ns λmN Y z p L G J=>(O x).elim hv λu m j=>?_
   obtain⟨hh,g,d,t,os⟩:=s
   exact load_attrFk (S.keep _ _ X) (lH Y S.keep) p (z x c) (vD x c) I m (VR.handed j) (k u _ j):∀{C:Cx}{A:fq}{s:bo}{ρ:aq Lc}{H:MH}{i:Nat}{l:Lc}{fs:Str->bc V}{x:Str}{v:V}{b:ec}{K E:bt->bo->Prop}(KK:SMC C)(c:x∈dD)(S:Sim C H ρ s)(B:ρ[i]? =am l)(D:H[i]? =am (.inst fs))(hv:fs x=am v)(k:∀ u n,VR ρ s.heap u v->K u {s with toks:=n}),bw C.M A (uX (.ref l.a) x b) K E s) K c S1 g (aE3 Z) hv (λu n j=>⟨S1.toks n,P.trans (.toks n),j,q⟩))
def fput(fs:Str->bc V)(x:Str)(v:V):Str->bc V:=λy=>if y=x then am v else fs y
theorem sG(K:SMC C)(hx:x∈dD)(S:Sim C H ρ s)(n:ρ[i]? =am l)(J:H[i]? =am (.inst fs))(rv:VR ρ s.heap u v):bw C.M A (setAttr (.ref l.a) x u) (λ_ s'=>Sim C (H.set i (.inst (fput fs x v))) ρ s'/\Nx ρ W s ρ s') NoE s:=by
 refine c6 (tB S n J) λm I Wi hm=>gY K.cls λnm q bs sn cu co dd k0 k1 k2 k3 k5 hC=>r8 K.ns λmN hn ch cp cm Q cl=>xAAAEA (S.objs i _ l J n) λg ne U _ cj _=>xEAAA U λo O h2 h3 h4=>?_;obtain⟨oD,cn,cs,P,X,_⟩:=cj
 have c:C.base.heap.get? l.a=ba:=by
  rcases S.ro i l n with ⟨vs,e⟩ |e
  ·cases (J▸e)
  ·exact e.1
 have ci:l.a≠d7:=by intro e;rw[e,hC]at c;exact cyM c
 obtain⟨Z,gg,d,t,os⟩:=s
 refine store_attrFk PySem.F.store_object (S.keep _ _ hC) (lH hn S.keep) Q (ch x hx) (vD x hx) ci I (λh' T I' hk m=>?_) Wi (by rw[ez];decide)
 have N:∀ b ob,¬l.has b->Z.get? b=am ob->h'.get? b=am ob:=λb ob L e=>hk b ob (λz=>L (.inl z)) (λo₀ d' B ed=>by
  obtain rfl:=Option.some.inj (O.symm.trans B);obtain rfl:=Option.some.inj (h4.symm.trans ed);exact λz=>L (.inr z)) e
 have G:Imm Z h':=λb ob e i=>N b ob (λz=>by
  rcases z with rfl |rfl
  ·refine cyS (O▸e) λzq=>?_;subst zq;simp [aY,h3]at i
  ·refine cyS (P▸e) λzq=>?_;subst zq;simp [aY,X]at i) e
 refine aCe (m o O) λo₁ f E r _ p=>xEAAA I' λo' e' c' _ k=>?_
 obtain rfl:=Option.some.inj (f.symm.trans e')
 have w:=p l.d h4
 rcases k with ⟨R,_⟩ |⟨d',k,cq,j,D⟩
 ·exact cyM (rwR w R)
 obtain rfl:=Option.some.inj (w.symm.trans k)
 have al:∀ b ob,Z.get? b=am ob->∃ Y,h'.get? b=am Y:=λb ob e=>by
  by_cases z:l.has b
  ·rcases z with rfl |rfl
   ·exact⟨_,f⟩
   ·exact i6 j λo2 _ _ e2 _=>⟨o2,e2⟩
  ·exact⟨ob,N b ob z e⟩
 refine⟨S.upd (s':=⟨h',gg,d,T,os⟩) n J (by intro _ h;cases h) (λb ob e L=>N b ob L e) G.im rfl rfl ⟨g,ne,⟨o₁,f,E.trans h2,r.trans h3,w⟩,_,j,D,?_,λy=>?_⟩ (by intro _ h;cases h),
  ⟨cc _,λl n=>by simp at n,λb ob e ho _=>N b ob (λz=>ho ⟨l,eg n,z⟩) e,G.im,al⟩⟩
 ·intro y hy
  by_cases z:y=x
  ·exact rwL z hx
  ·exact Wi y (by simpa [z] using hy)
 ·delta fput
  by_cases z:y=x
  ·simp only[z,vx];exact rv.mono (cc _) G.im
  ·simp only[z,pg];exact(hm y).mono (cc _) G.im
def eZ(x:Str)(f:EF):AF:=λv lo H Q=>f lo H λa H1=>Lf a.rf λi=>Lf (H1[i]?.bind MO.ins) λfs=>Q lo (H1.set i (.inst (fput fs x v)))
theorem AV.attr(K:SMC C)(j:x∈dD)(h:EV C r env e f):AV C r env (.Attribute e x pos) (eZ x f):=by
 intro A s ρ H lo u v Q k S F rv q
 rw[assign_Attribute]
 exact zzB (bx (h.run k S F q λS1 b d q=>q.elim λi c q=>q.elim λfs i q=>by
  refine c6 (d.toRef c) λl l a g=>rwL a ?_
  exact zzB (f5 (zzB (bx (wmN (sG (W:=noW) K j S1 g (aE3 i) (rv.nx b)) λl s2 p=>(wpAny_release ⟨p.1,(b.trans p.2).wr,F.nx (b.trans p.2),q⟩)))))))
def cW(g:CF)(f:EF)(fs:EFs):EF:=λlo H Q=>f lo H λa H1=>Lf a.rf λi=>(∃ ff,H1[i]? =am (.inst ff))/\fs lo H1 λvs H2=>g (.ref i::vs) H2 Q
theorem EV.meth{name:Str}{a:Pos}(K:SMC C)(h:(name,fa)∈fA)(T:CV C r (.ref fa) g)(B:EV C r env o f)(O:EVs C r env c fs)(hfl:l9 env c)(u:fM env o name a pos c):EV C r env (.Call (.Attribute o name a) c [] pos) (cW g f fs):=λ_ _ _ _ _ _ hr S F q=>fD (P:=λ_ _=>qm) u.base u.few u.line (B.run hr S F q λ{x s1 H V H1} b v J q pl=>q.elim λi M q=>by
  refine c6 (J.toRef M) λl _ D w=>rwL D (xA q λz83 q=>?_);obtain⟨ff,L⟩:=z83
  refine c6 (tB b w L) λm I W hm=>gY K.cls λnm Y bs sn U G dd Z k1 k2 X k5 Q=>r8 K.ns λmN R N l j y i=>xEA (K.fn _ h) λof k n=>xE (aDq _ h) λy A=>?_
  have s:m name=Option.none:=by
   cases e:m name with
   |none=>rfl
   |some z=>exact bv (W name (by exact rwL e (λq=>(cyM q)))) ((by decide+kernel:∀ p∈fA,p.1∉dD) _ h)
  obtain⟨hh,gg,d,t,os⟩:=s1
  exact method_ofFk (b.keep _ _ Q) (lH R b.keep) l j (i _ h) (b.keep _ _ k) n A I s (wmN (E:=NoE) (nI (pos:=pos) T O hfl hr b (F.nx v) (.cons (VR.ref w) .nil) q) λ_ _ p=>p.from v))
theorem Sim.iterX(S:Sim C H ρ s)(c:∀ b o,¬X b->s.heap.get? b=am o->h'.get? b=am o)(h:∀ a o,X a->s.heap.get? a=am o->¬aY o)(d:∀ b,X b->¬Own ρ b/\C.base.heap.get? b=ba):Sim C H ρ {s with heap:=h',toks:=k}/\NxI ρ X s ρ {s with heap:=h',toks:=k}:=by
 have f:Imm s.heap h':=λb o e i=>Classical.byCases (λq:X b=>bv i (h b o q e)) λq=>c b o q e
 refine⟨S.same (λb o e q=>c b o (λz=>(Or.elim q (λq=>((d b z).1 q)) λq=>?_)) e) f.im (λj j e=>e) rfl S.bare,⟨cc _,λl g=>by simp at g,λb o e j q=>c b o q e,f.im,λb o e q=>⟨o,c b o q e⟩⟩⟩
 ·cases (((d b z).2)▸q)
inductive EnR(ρ:aq Lc)(h:kh)(it:Nat×Nat):bt->(d3->Prop)->Prop
 |mk {e t l old} (h1:ρ[it.1]? =am l) (h2:e≠t) (h3:IsEnum h e t it.2 old) (h4:h.IsListIter t l.a it.2):EnR ρ h it (.ref e) (λb=>b=e\/b=t)
inductive EnM(ρ:aq Lc)(h:kh)(it:Nat×Nat):bt->bt->(d3->Prop)->Prop
 |mk {e t l item a} (h1:ρ[it.1]? =am l) (h2:e≠t) (h3:IsEnumOut h e t it.2 item a) (h4:h.IsListIter t l.a it.2):EnM ρ h it (.ref a) (.ref e) (λb=>b=e\/b=t)
theorem aF8{h:kh}{o2:Obj}(h1:h.get? e=am o1)(h2:h.get? t=am o2)(d: ¬aY o1)(c: ¬aY o2):∀ b o,(b=e\/b=t)->h.get? b=am o->¬aY o:=λb o q a=>by
 rcases q with rfl |rfl
 ·rw[h1]at a;exact cxS a d
 ·rw[h2]at a;exact cxS a c
theorem mG(b:o.cls= .type "list_iterator")(a:o.data= .fields #[x,y]): ¬aY o:=by delta aY;rw[a];simp [b]
def lN(C:Cx):ItK C where
 σ:=Nat×Nat
 nx:=λit H Q=>Lf (lst H (.ref it.1)) λvs=>Q ((vs[it.2]?).map λv=>(.tup [.int it.2,v],(it.1,it.2+1))) H
 rel:=λρ s it x X=>EnR ρ s.heap it x X
 mid:=λρ s it u x X=>EnM ρ s.heap it u x X
 tg:=λt=>∃ elts k pos,t= .Tuple elts k pos
 need:=0
 mono:=λR p i hk=>by
  cases R with
  |mk h1 h2 h3 h4=>refine xEA h4 λo h4 h5=>?_;exact .mk (aR p h1) h2 (hk _ _ (.inl rfl) h3) ⟨o,hk _ _ (.inr rfl) h4,h5⟩
 alive:=λR b hb=>by
  cases R with
  |mk h1 h2 h3 h4=>
   refine xEA h4 λo h4 h5=>?_
   rcases hb with rfl |rfl
   ·exact⟨_,h3⟩
   ·exact⟨_,h4⟩
 next:=λ{A s ρ H it x X Q r} a hr S R hX q=>by
  refine q.elim λvs hl q=>?_
  cases R with
  |mk h1 h2 h3 hit=>
  refine bM (b6 S (.ref h1) hl) λad xs q1 q2 q3=>?_
  cases q1
  have hi:∀ b o,_->s.heap.get? b=am o->¬aY o:=let ⟨o,h4,h5,h6⟩:=hit;aF8 h3 h4 (by simp [aY]) (mG h5 h6)
  cases hv:vs[it.2]? with
  |some v=>
   rw[hv]at q
   refine xEA (q3.get hv) λu hu ru=>?_
   refine wpAny_pyNext_enum_item h3 hit q2 (by simpa using hu) h2 λh' a1 a2 a3 a4 a5=>?_
   have st:=S.iterX (h':=h') (k:=s.toks+1) (λb o hb e'=>a5 b o (λz=>hb (.inl z)) (λz=>hb (.inr z)) e') hi hX
   exact .item (it':=(it.1,it.2+1)) st.1 st.2 (.tup a3 (S.nown (aU _)) (.cons (.int _ _) (.cons (ru.mono (cc _) st.2.imm) .nil))) (.mk h1 h2 a1 a2) q
  |none=>
   rw[hv]at q
   refine wpAny_pyNext_enum_end hr.1 h3 hit q2 (Array.getElem?_eq_none (by rw[q3.sz];exact getElem?_eq_none_iff.mp hv)) λh' he=>?_
   have st:=S.iterX (h':=h') (k:=s.toks) (λb o hb e'=>he b o (λz=>hb (.inr z)) e') hi hX
   exact .done st.1 st.2 q
 lgo:=λ{A s ρ H it x X u target r} hr S M tg hX=>by
  refine uK tg λelts k pos z68=>?_;clear tg;subst z68
  cases M with
  |mk h1 h2 h3 hit=>
  have hi:∀ b o,_->s.heap.get? b=am o->¬aY o:=let ⟨o,h4,h5,h6⟩:=hit;aF8 h3 h4 (by simp [aY]) (mG h5 h6)
  refine wpAny_letOwnedTupleGo_enum h3 λh' a1 hs=>?_
  have st:=S.iterX (h':=h') (k:=s.toks) (λb o hb e'=>(hs.2 b (λz=>hb (.inl z))).trans e') hi hX
  refine xEA hit λo h4 h5=>?_
  exact⟨st.1,st.2,.mk h1 h2 a1 ⟨o,(hs.2 _ (Ne.symm h2)).trans h4,h5⟩⟩
theorem IV.enum(h:EV C r env e f)(w:Glo C "enumerate" (.type "enumerate"))(J:env.kindOf "enumerate" =am .globalImplicit)(b:l9 env [e])(K:e9 [e] env=(false,jc e env)::e9 [] env):IV (lN C) r env (.Call (.Name "enumerate" x) [e] [] pos) (iL f):=λA s ρ H lo Q z S F q=>k6 (kV w J (by decide) S F (om (by rw[b.2];rfl) dT
  (wmN (j6 (Q:=λvs H1=>Lf (one vs) λv=>Lf v.rf λi=>(∃ vs,lst H1 (.ref i)=am vs)/\Q (i,0) H1) (EVs.cons h EVs.nil K) b z S F q) λa s1 p=>by
  obtain⟨ps,O⟩:=a
  obtain⟨k,c,m,rs,q⟩:=p
  subst k
  refine⟨c.keep,q.elim λv B q=>q.elim λi G q=>(xEA (jM rs B) λu I n=>?_)⟩
  subst I
  refine c6 (n.toRef G) λl j d g=>?_;subst j;subst d
  refine xA q λz71 q=>?_;obtain⟨vs,D⟩:=z71
  refine bM (b6 c n D) λad M e y N=>?_
  cases e
  refine call_enumerate_list y λh' u L P t=>wpAny_pyIter_enum u ?_
  have l:s1.heap.get? (s1.heap.objs.size+1)=ba:=by
   cases A:s1.heap.get? (s1.heap.objs.size+1) with
   |none=>rfl
   |some o=>exact bv (Heap.lt_size A) (Nat.not_lt.mpr (vH _))
  exact⟨c.ext t,m.trans (.ext t),.mk g (oy _) u L,λb E=>by
   rcases E with rfl |rfl
   ·exact cP m c l
   ·exact cP m c (aU _),q⟩)))
def MO.dct:MO->bc (Nat×(Int->bc V)) | .dict n f=>am (n,f) |_=>ba
theorem xZ(e:m.bind MO.dct=am p):m=am (.dict p.1 p.2):=by
 refine xEA (bn.mp e) λm a b=>rwL a ?_
 cases m with
 |dict n f=>refine cxSP b ?_;rfl
 |_=>cases b
theorem sN{i:Nat}(S:Sim C H ρ s)(b:ρ[i]? =am l)(c:H[i]? =am (.dict n f))(d:∃ o,C.base.heap.get? oq=am o):(l.a==oq)=false:=by
 rcases S.ro i l b with ⟨vs,e⟩ |e
 ·cases (c▸e)
 ·rw[pd]
  refine λq=>(xE d λo g=>?_)
  rw[q,g]at e
  cases e.1
structure DctAt(C:Cx)(H:MH)(ρ:aq Lc)(s:bo)(i:Nat)(l:Lc)(n:Nat)(f:Int->bc V)(kvs:aq (Int×bt)):Prop where
 g:ρ[i]? =am l
 d:l.d=l.a
 gn:l.g=ba
 h:H[i]? =am (.dict n f)
 x:s.heap.DictOf (sv C.prog C.w) l.a kvs
 le:kvs.length<=n
 f:∀ k,OV ρ s.heap (pG kvs k) (f k)
theorem t7(S:Sim C H ρ s)(g:ρ[i]? =am l)(h:H[i]? =am (.dict n f)):∃ a,DctAt C H ρ s i l n f a:=let ⟨c,d,a,j,b,e⟩:=S.objs i _ l h g;⟨a,g,c,d,h,j,b,e⟩
theorem rG{id:qp}{b:Pos}{K:bt->bo->Prop}(B:EV C r env o f)(t:fM env o name b pos args)(j:Slot "dict" name id)(u:tt (.builtin id)=pure (.type "method_descriptor"))(G:Room r A)(S:Sim C H ρ s)(F:Fm C env ρ s lo)(e:f lo H Q)(E:∀ v H1,Q v H1->∃ i n g,v.rf=am i/\H1[i]? =am (.dict n g))(h:∀ {s1 c l i n g H1},Sim C H1 c s1->Nx ρ noW s c s1->c[i]? =am l->H1[i]? =am (.dict n g)->Q (.ref i) H1->bw C.M A (wq pos (.builtin id) [.ref l.a] (lr pos (e9 args env)) []) K NoE s1):bw C.M A (jc (.Call (.Attribute o name b) args [] pos) env) K NoE s:=fD (P:=λT T=>qm) t.base t.few t.line (B.run G S F e λS1 L z q pl=>by
  refine i6 (E _ _ q) λi n O J y=>c6 (z.toRef J) λl k p g=>?_;subst p
  subst k
  refine xE (t7 S1 g y) λkvs D=>iE D.x λob R N d w T=>xAA w λhc1 m I=>?_
  exact getMethod_builtin ⟨_,d,hc1⟩ PySem.F.plainAttrs_dict j u (λa e=>by cases e;exact⟨_,d,m⟩) (h S1 L g y q))
def eD2(f f1 f2:EF)(k:Nat->Nat->(Int->bc V)->Int->V->MH->EK->Prop):EF:=λlo H Q=>f lo H λa H1=>Lf a.rf λi=>(∃ n g,H1[i]? =am (.dict n g))/\f1 lo H1 λb H2=>Lf (Ti b) λx=>f2 lo H2 λv H3=>Lf (H3[i]?.bind MO.dct) λp=>k i p.1 p.2 x v H3 Q
def aAm(f f1 f2:EF):EF:=eD2 f f1 f2 λi n g x v H3 Q=>n<1000000/\match g x with |some v'=>Q v' H3 |none=>Q v (H3.set i (.dict (n+1) (dput g x v)))
theorem OV.same(o:OV ρ h u w):(u=ba/\w=ba)\/∃ x v,u=am x/\w=am v/\VR ρ h x v:=by
 cases u<;>cases w
 ·exact .inl ⟨rfl,rfl⟩
 ·exact False.elim o
 ·exact False.elim o
 ·exact .inr ⟨_,_,rfl,rfl,o⟩
theorem EV.setdefault(P:∃ o,C.base.heap.get? oq=am o)(z:EV C r env o f)(h1:EV C r env j f1)(h2:EV C r env m f2)(Q:fM env o "setdefault" c pos [j,m])(A:lr pos (e9 [j,m] env)= [(false,jc j env),(false,jc m env)]):EV C r env (.Call (.Attribute o "setdefault" c) [j,m] [] pos) (aAm f f1 f2):=λX X X X X X p S F q=>rG z Q PySem.F.slot_dict_setdefault PySem.F.type_dict_setdefault p S F q (λv H1 q=>q.elim λi O q=>xEE q.1 λn g h=>⟨i,n,g,O,h⟩) λ{s1 J l i n g H1} B N1 E U q=>by
  refine rwL A (method2_meetsIn PySem.F.slot_dict_setdefault PySem.F.entry_dict_setdefault (h1.run p B (F.nx N1) q.2 λ{x s2 G v2 T} S2 N2 H q=>q.elim λk I q=>h2.run p S2 ((F.nx N1).nx N2) q λ{b s3 M W V} S3 y v q=>q.elim λp R q=>(xE (t7 S3 (aR (N2.trans y).pre E) (xZ R)) λkvs D=>?_)))
  have N:=N1.trans (N2.trans y)
  refine xE (H.tiE I) λt u=>?_;subst u
  refine xA q λhn q=>⟨D.x.mapOf.typeIs,PySem.F.args_dict_setdefault_3 _ _ _,_,kt_meets_setdefault (sv C.prog C.w) l.a (sg _ _ _ _) (sN S3 D.g D.h P) b,kvs,D.x,by exact rwL ez (zzM2 0x550820820f69028a401dec3283d07da00007 [p.fst,kvs.length] ⋯ hn D.le),λu hu=>?_,λhu h' t hs=>?_⟩
  ·rcases(D.f k).same with ⟨e,_⟩ |⟨K,L,e,s,rv⟩
   ·exact cyM (rwR hu e)
   ·refine cyS (hu▸e) λzq=>?_;subst zq;rw[s]at q;exact bQ.from N (.tok S3 rv q)
  ·rcases(D.f k).same with ⟨_,s⟩ |⟨K,L,e,_⟩
   ·rw[s]at q
    have st:=S3.setD (tk:=s3.toks+1) D.g D.h D.d D.gn D.x D.le D.f v t hs
    exact bQ.from N ⟨st.1,st.2 _,v.nx (st.2 noW),q⟩
   ·cases (hu▸e)
def eGet(f f1 f2:EF):EF:=eD2 f f1 f2 λi n g x v H3 Q=>Q ((g x).getD v) H3
theorem EV.get{a:Pos}(J:∃ o,C.base.heap.get? oq=am o)(A:EV C r env o f)(h1:EV C r env c f1)(h2:EV C r env d f2)(M:fM env o "get" a pos [c,d])(B:lr pos (e9 [c,d] env)= [(false,jc c env),(false,jc d env)]):EV C r env (.Call (.Attribute o "get" a) [c,d] [] pos) (eGet f f1 f2):=λW W W W W W p S F q=>rG A M PySem.F.slot_dict_get PySem.F.type_dict_get p S F q (λv H1 q=>q.elim λi I q=>xEE q.1 λn g h=>⟨i,n,g,I,h⟩) λ{s1 z l i n g H1} v t y L q=>by
  refine rwL B (wpAny_dict_get2 (knd:=sv C.prog C.w) (sN v y L J) (h1.run p v (F.nx t) q.2 λ{x s2 G v2 Q} S2 N2 K q=>q.elim λk P q=>h2.run p S2 ((F.nx t).nx N2) q λ{b s3 H V R} m u E q=>q.elim λp O q=>(xE (t7 m (aR (N2.trans u).pre y) (xZ O)) λkvs D=>?_)))
  have N:=t.trans (N2.trans u)
  refine xE (K.tiE P) λt j=>rwL j ?_
  dsimp only at q
  refine⟨k,_,sg _ _ _ _,D.x.mapOf,?_⟩
  rcases(D.f k).same with ⟨e,s⟩ |⟨T,U,e,s,rv⟩
  ·rw[e];rw[s]at q;exact bQ.from N (.tok m E q)
  ·rw[e];rw[s]at q;exact bQ.from N (.tok m rv q)
theorem zG:Slot "method_descriptor" "__get__" "method_descriptor.__get__" :=.of (owner:="method_descriptor") (n:="__get__") (by rw[fx,dx];kernel_rfl) (by decide+kernel) (by decide+kernel) (by decide+kernel)
  (by first |exact .inl (by decide+kernel) |exact .inr (by decide+kernel)) (by rw[ja];kernel_rfl)
theorem aCy:pv (.type "dict") (.type "dict")=pure be:=by rw[ja];kernel_rfl
theorem aHl:pv (.type "set") (.type "set")=pure be:=by rw[ja];kernel_rfl
theorem aH2:(kfb_private% "ownerAndName") "dict.get" =("dict","get"):=by first |decide+kernel |kernel_rfl
theorem aH3:(kfb_private% "ownerAndName") "set.__contains__" =("set","__contains__"):=by first |decide+kernel |kernel_rfl
theorem aD7:g4 (.type "method_descriptor") "__get__" =pure (am (.builtin "method_descriptor.__get__")):=by rw[fx,dx];kernel_rfl
theorem aD6:g4 (.type "method_descriptor") "__set__" =pure ba:=by rw[fx,dx];kernel_rfl
theorem aD9:g4 (.type "method_descriptor") "__delete__" =pure ba:=by rw[fx,dx];kernel_rfl
theorem zH{a:d3}{id:qp}(h1:Manifest.toldItsClass.contains id=false)(c:(kfb_private% "ownerAndName") id=(T,nm))(b:pv (.type T) (.type T)=pure be)(d:tt (.builtin id)=pure (.type "method_descriptor"))(hT:s.TypeIs (.ref a) T)(h:R (.ok (.ret (.ref s.heap.objs.size))) {s with heap:=s.heap.push {cls:=.type "builtin_function_or_method",data:=.fields #[.builtin id,.ref a]}}):
  lz (ir prog w) A (.call (.builtin "method_descriptor.__get__") ⟨[.builtin id,.ref a,.type T],[]⟩) R s:=by
 exact jz zG.plain (mh ⋯) (zG.check _ _ _ _ _ _ _ _ d (by delta sY;kernel_rfl) ((by
  intro M A E s a T id nm P h1 c b hT h
  refine zzB (jy (a:=(.builtin id,am (.ref a),am (.type T))) (by first |rfl |kernel_rfl) ?_)
  simp only[h1,jv,pg]
  refine zzB (zzB (jy (by show(match (kfb_private% "ownerAndName") id with | (owner,name)=>pure ((name:Str),Value.type owner))=_;rw[c]) ?_))
  exact zzB (ki hT b (zzP (zzB (fv (zzP h))))):∀{M:wg}{A:fq}{E:bt->bo->Prop}{s:bo}{a:d3}{T id nm:qp}{P:Fin->bo->Prop}(h1:Manifest.toldItsClass.contains id=false)(c:(kfb_private% "ownerAndName") id=(T,nm))(b:pv (.type T) (.type T)=pure be)(hT:s.TypeIs (.ref a) T)(h:P (.done (.ret (.ref s.heap.objs.size))) {s with heap:=s.heap.push {cls:=.type "builtin_function_or_method",data:=.fields #[.builtin id,.ref a]}}),bw M A (Builtin.«method_descriptor.__get__» ⟨[.builtin id,.ref a,.type T],[]⟩) P E s) h1 c b hT h))
theorem kD:si sj "dict.__getattribute__" =am Builtin.«object.__getattribute__»:=uu (id':="object.__getattribute__") ⋯ (by decide+kernel) (by decide+kernel) ⋯
theorem lk_get:g4 (.type "dict") "get" =pure (am (.builtin "dict.get")):=by rw[fx,dx];kernel_rfl
set_option maxHeartbeats 1000000 in
theorem j9(a:d3)(c:jf we)(k:Nat)(u:Tok):Meets (Builtin.«object.__getattribute__» ⟨[.ref a,.str "get" u],[]⟩) (λA R s=>s.heap.get? a=am {cls:=.type "dict",dict:=ba,data:=.dict c k,slots:= #[]}/\R (.ok (.ret (.ref s.heap.objs.size))) {s with heap:=s.heap.push {cls:=.type "builtin_function_or_method",data:=.fields #[.builtin "dict.get",.ref a]}}):=Meets.of_wp λprog w A R s hs=>by
  obtain⟨b,g,d,tk,os⟩:=s
  obtain⟨e,hs⟩:=hs
  have hT:(⟨b,g,d,tk,os⟩:bo).TypeIs (.ref a) "dict" :=⟨_,e,rfl⟩
  have f1:=lk_get
  have f2:=PySem.F.type_dict_get
  have f3:=aD7
  have f:=aD6
  have h:=aD9
  repeat (any_goals (first |assumption |wp_step))
  exact zH (by decide+kernel) aH2 aCy f2 hT (zzP ⟨_,rfl,hs⟩)
set_option maxHeartbeats 1000000 in
theorem mK{a:d3}{b:ec}(c:s.heap.get? a=am {cls:=.type "dict",dict:=ba,data:=.dict f k,slots:= #[]})(h:Q (.ref s.heap.objs.size) {s with heap:=s.heap.push {cls:=.type "builtin_function_or_method",data:=.fields #[.builtin "dict.get",.ref a]},toks:=s.toks+1}):
  bw (ir prog w) A (uX (.ref a) "get" b) Q E s:=by
 obtain⟨i,g,d,tk,os⟩:=s
 have hT:∀ e,(⟨i,g,d,e,os⟩:bo).TypeIs (.ref a) "dict" :=λq=>⟨_,c,rfl⟩
 have f3:=F.slot_dict_getattribute.lookup
 have j:=F.slot_dict_getattribute.bind (.ref a)
 repeat (any_goals (first |assumption |exact hT _ | ((with_reducible show bw _ _ (call (Value.builtin "dict.__getattribute__") _ _) _ _ _);refine vq F.slot_dict_getattribute (hT _) kD (F.args_dict_getattribute_2 _ _) (j9 a f k _) ⟨c,?_⟩) |wp_step))
 have l:(b && onTheHeap (Value.builtin "dict.__getattribute__"))=false:=by cases b<;>rfl
 delta boundAndCalled
 repeat (any_goals (first |assumption |exact hT _ | ((with_reducible refine(?_:bw _ _ (call (Value.builtin "dict.__getattribute__") _ _) _ _ _));refine vq F.slot_dict_getattribute (hT _) kD (F.args_dict_getattribute_2 _ _) (j9 a f k _) ⟨c,?_⟩) |wp_step))
 exact zzP h
theorem lV:si sj "set.__getattribute__" =am Builtin.«object.__getattribute__»:=uu (id':="object.__getattribute__") ⋯ (by decide+kernel) (by decide+kernel) ⋯
theorem lk_con:g4 (.type "set") "__contains__" =pure (am (.builtin "set.__contains__")):=by rw[fx,dx];kernel_rfl
set_option maxHeartbeats 1000000 in
theorem lJ(a:d3)(k:Nat)(st:SetTable)(u:Tok):Meets (Builtin.«object.__getattribute__» ⟨[.ref a,.str "__contains__" u],[]⟩) (λA R s=>s.heap.get? a=am {cls:=.type "set",dict:=ba,data:=.set #[] k st,slots:= #[]}/\R (.ok (.ret (.ref s.heap.objs.size))) {s with heap:=s.heap.push {cls:=.type "builtin_function_or_method",data:=.fields #[.builtin "set.__contains__",.ref a]}}):=Meets.of_wp λprog w A R s hs=>by
  obtain⟨b,g,d,tk,os⟩:=s
  obtain⟨c,hs⟩:=hs
  have hT:(⟨b,g,d,tk,os⟩:bo).TypeIs (.ref a) "set" :=⟨_,c,rfl⟩
  have f1:=lk_con
  have f2:=PySem.F.type_set_contains
  have f3:=aD7
  have e:=aD6
  have f:=aD9
  repeat (any_goals (first |assumption |wp_step))
  exact zH (by decide+kernel) aH3 aHl f2 hT (zzP ⟨_,rfl,hs⟩)
set_option maxHeartbeats 1000000 in
theorem nU{a:d3}{st:SetTable}{b:ec}(c:s.heap.get? a=am {cls:=.type "set",dict:=ba,data:=.set #[] k st,slots:= #[]})(h:Q (.ref s.heap.objs.size) {s with heap:=s.heap.push {cls:=.type "builtin_function_or_method",data:=.fields #[.builtin "set.__contains__",.ref a]},toks:=s.toks+1}):
  bw (ir prog w) A (uX (.ref a) "__contains__" b) Q E s:=by
 obtain⟨f,g,d,tk,os⟩:=s
 have hT:∀ e,(⟨f,g,d,e,os⟩:bo).TypeIs (.ref a) "set" :=λq=>⟨_,c,rfl⟩
 have f3:=F.slot_set_getattribute.lookup
 have i:=F.slot_set_getattribute.bind (.ref a)
 repeat (any_goals (first |assumption |exact hT _ | ((with_reducible show bw _ _ (call (Value.builtin "set.__getattribute__") _ _) _ _ _);refine vq F.slot_set_getattribute (hT _) lV (F.args_set_getattribute_2 _ _) (lJ a k st _) ⟨c,?_⟩) |wp_step))
 have j:(b && onTheHeap (Value.builtin "set.__getattribute__"))=false:=by cases b<;>rfl
 delta boundAndCalled
 repeat (any_goals (first |assumption |exact hT _ | ((with_reducible refine(?_:bw _ _ (call (Value.builtin "set.__getattribute__") _ _) _ _ _));refine vq F.slot_set_getattribute (hT _) lV (F.args_set_getattribute_2 _ _) (lJ a k st _) ⟨c,?_⟩) |wp_step))
 exact zzP h
noncomputable abbrev bObj(id:qp)(self:bt):Obj:= {cls:=.type "builtin_function_or_method",data:=.fields #[.builtin id,self]}
def okB(id full:qp)(args:Args):Prop:=(match Manifest.signature? id with |some sig=>Bind.checkArgs id {sig with full:=full} args |none=>(pure ():Sem uq))=pure ()
theorem nH{b:aq bt}{id:qp}(p:px id=am .method)(r:Bind.lastOf id=nm)(l:Manifest.varargsMethods.contains id=false)(n:pv (.type T) (.type "module")=pure false)(i:s.heap.get? d=am o)(k:o.cls= .type T)(j:∀ c,o.data≠ .cls c)(g:s!"{Bind.lastOf T}.{nm}" =f)(a:okB id f ⟨.ref d::b,[]⟩)(h:Q () s):bw M A (sp id ⟨.ref d::b,[]⟩) Q E s:=by
 delta sp
 rw[<-g]at a
 unfold okB at a
 cases hs:Manifest.signature? id with
 |none=>exact zzP h
 |some m=>
  rw[hs]at a
  rw[p]
  dsimp only
  refine rwL (bz (by decide)) (rwL r (zzB (ki ⟨o,i,k⟩ n (rwL l (rwL (bz (by decide)) (zzB ?_))))))
  show bw M A (loadHead d >>=λob=>pure (match ob.data with | .cls _=>be |_=>false)) _ _ s
  refine zzB (uv i ?_)
  have e:(match o.data with | .cls _=>be |_=>false)=false:=by
   cases q:o.data<;>first |rfl |exact bv q (j _)
  exact rwL e (zzP (rwL (bz (by decide)) (zzB (tw ⟨o,i,k⟩ (jy a h)))))
theorem qR{a:bt}{id:qp}(i:s.heap.get? x=am (bObj id a))(d:∀ {f:fq}{j:bt->bo->Prop}{b:uq->bo->Prop},b () s->bw (ir prog w) f (sp id ⟨a::args,[]⟩) b j s)(c:wm id=be)(e:si sj id=am B)(g:MeetsIn prog w (B ⟨a::args,[]⟩) S)(h:S A (wants Q E) s):bw (ir prog w) A (call (.ref x) args) Q E s:=by
 refine ju (ny ?_)
 show bw _ A.in1 (callAny (.ref x) ⟨args,[]⟩) _ _ s
 delta callAny;dsimp only
 refine zzB (wpAny_load i ?_)
 simp only[show (Value.type "builtin_function_or_method" ==Value.type "method" || Value.type "builtin_function_or_method" ==Value.type "builtin_function_or_method" || Value.type "builtin_function_or_method" ==Value.type "method-wrapper")=be by decide,vx]
 refine KFB.if_so (by decide) (zzB (d (zzB (zzP (zzP ⟨vf c _,codeAny_builtin e ?_⟩)))))
 rw[Around.under_plainId c]
 exact g A _ s h
theorem aBp{a:d3}:MeetsIn prog w (Builtin.«frozenset.__contains__» ⟨[.ref a,.int k u],[]⟩) (λq R s=>(∃ n t,s.heap.get? a=am {cls:=.type "set",data:=.set #[] n t}/\t.fits 0=be)/\R (.ok (.ret (.bool false))) {s with toks:=s.toks+1}):=.of_wp λA R s ⟨⟨n,t,b,c⟩,h⟩=>by
  refine zzB (zzP ?_)
  try refine zzB (zzP ?_)
  try exact zzB (wpAny_tryCatch (bx (zzB ((sv prog w).pyHash (sg _ _ _ _) (zzB (wpAny_setFind_of (sg _ _ _ _) rfl ((by exact λ{h a n t} b c prog w=>⟨_,#[],n,t,b,⟨rfl,rfl,rfl⟩,rfl,λe d=>by simp at d,λk=>by simp,by decide,c,rfl⟩:∀{h:kh}{a:d3}{n:Nat}{t:SetTable}(b:h.get? a=am {cls:=.type "set",data:=.set #[] n t})(c:t.fits 0=be)(prog:pj)(w:kb),h.SetOf (sv prog w) a (λq=>false) 0) b c prog w) λr e=>(zzP (rwL e (zzP ⟨_,rfl,h⟩)))))))))
def eBd(mk:Nat->V)(ok:MO->ec)(f:EF):EF:=λlo H Q=>f lo H λa H1=>Lf a.rf λi=>Lf H1[i]? λm=>ok m=be/\Q (mk i) H1
def okD:MO->ec | .dict _ _=>be |_=>false
def okS:MO->ec | .eset=>be |_=>false
theorem EV.dget(h:EV C r env e f)(x:kg e "get" env (jc e env)=jc e env)(H:∀ o y,on e o y=pure ()):EV C r env (.Attribute e "get" pos) (eBd .dget okD f):=λJ J J J J J v S F q=>dN x (h.run v S F q λS1 A s q=>q.elim λi z q=>q.elim λm w q=>by
  obtain⟨l,_,rfl,b⟩:=s.toRef z
  obtain⟨a,q⟩:=q
  cases m with
  |dict n g=>
   obtain⟨B,E,k,⟨⟨oc,D,u,p⟩,I,G,t,⟨c,c2,j⟩,d,_⟩,_⟩:=S1.objs i _ l w b
   simp only at c c2 j d
   subst c c2 j d
   exact mK t ⟨(S1.push _).toks _,A.trans ((Nx.push _).trans (.toks _)),.dget b (Heap.get?_push_size _ rfl),q⟩
  |_=>cases a)
theorem aJb(h:okS m=be):m= .eset:=by cases m<;>first |rfl |cases h
theorem EV.scon2(h:EV C r env e f)(g:kg e "__contains__" env (jc e env)=jc e env):EV C r env (.Attribute e "__contains__" pos) (eBd .scon okS f):=λv v v v v v o S F q=>dN g (h.run o S F q λS1 j k q=>q.elim λi d q=>q.elim λm c q=>by
  obtain⟨l,_,rfl,b⟩:=k.toRef d
  obtain⟨a,q⟩:=q
  obtain rfl:=aJb a
  obtain⟨p,s,n,t,m,u⟩:=S1.objs i _ l c b
  exact nU m ⟨(S1.push _).toks _,j.trans ((Nx.push _).trans (.toks _)),.scon b (Heap.get?_push_size _ rfl),q⟩)
theorem aB6(j:s.heap.get? x=am (bObj "set.__contains__" (.ref d)))(f:s.heap.get? d=am {cls:=.type "set",data:=.set #[] n t})(m:t.fits 0=be)(h:Q (.bool false) {s with toks:=s.toks+1}):bw (ir prog w) A (call (.ref x) [.int k u]) Q E s:=by
 have l:∀ {e:fq}{g:bt->bo->Prop}{c:uq->bo->Prop},c () s->bw (ir prog w) e (sp "set.__contains__" ⟨.ref d::[.int k u],[]⟩) c g s:=by
  intro e g c i
  refine nH (nm:="__contains__") (id:="set.__contains__") (by decide+kernel:px "set.__contains__" =am .method) ?_ ?_ ?_ f rfl (λc z=>by injection z) ?_ ((by
   intro a b
   delta okB;rw[signature?_of (n:=['_','_','s','n','i','a','t','n','o','c','_','_']) ⋯ PySem.F.owner_set];kernel_rfl:∀(a b:bt),okB "set.__contains__" "set.__contains__" ⟨[a,b],[]⟩) (.ref d) (.int k u)) i
  ·decide+kernel
  ·decide+kernel
  ·rw[ja];kernel_rfl
  ·decide+kernel
 exact qR j l PySem.F.slot_set_contains.plain entry_set_contains aBp ⟨⟨n,t,f,m⟩,h⟩
def V.bd:V->bc (ec×Nat) | .dget i=>am (be,i) | .scon i=>am (false,i) |_=>Option.none
def twoV(vs:aq V):bc (Int×V):=match vs with | [a,b]=>(Ti a).map λk=>(k,b) |_=>ba
def eCv(f:EF)(fs:EFs):EF:=λlo H Q=>f lo H λa H1=>Lf a.bd λp=>fs lo H1 λvs H2=>
 bif p.1 then Lf (twoV vs) λkv=>Lf (H2[p.2]?.bind MO.dct) λd=>Q ((d.2 kv.1).getD kv.2) H2
 else Lf ((one vs).bind Ti) λk=>H2[p.2]? =am .eset/\Q (.bool false) H2
theorem VR.toBd(r:VR ρ h u v)(e:v.bd=am (t,i)):∃ a l,u= .ref a/\ρ[i]? =am l/\h.get? a=am (bObj (bif t then "dict.get" else "set.__contains__") (.ref l.a)):=by
 cases v with
 |dget n=>exact cxSP e r.inv
 |scon n=>exact cxSP e r.inv
 |_=>first |exact aE e |cases e
theorem aB7{b:aq (Int×bt)}{K:bt->bo->Prop}(u:∃ o,C.base.heap.get? oq=am o)(S2:Sim C j d s2)(D:DctAt C j d s2 i l n g b)(f:s2.heap.get? m=am (bObj "dict.get" (.ref l.a)))(h:K ((pG b k).getD c) {s2 with toks:=s2.toks+1}):bw C.M A (call (.ref m) [.int k t,c]) K NoE s2:=by
 refine d5 D.x λoo r v p e q B=>xAA e λc1 c2 y=>?_
 exact qR f (λhq=>nH (by decide+kernel:px "dict.get" =am .method) (by decide+kernel:Bind.lastOf "dict.get" ="get") (by decide+kernel:Manifest.varargsMethods.contains "dict.get" =false) (by rw[ja];kernel_rfl:pv (.type "dict") (.type "module")=pure false) p c1 (λc=>by rw[q];intro z;cases z) (by decide+kernel:s!"{Bind.lastOf "dict"}.{"get"}" ="dict.get") ((by
  delta okB;rw[signature?_of (n:=['t','e','g']) ⋯ PySem.F.owner_dict];kernel_rfl)) hq) PySem.F.slot_dict_get.plain PySem.F.entry_dict_get
  (meets_dict_get_default (sv C.prog C.w) l.a (sg _ _ _ _) (sN S2 D.g D.h u) _) ⟨_,D.x.mapOf,h⟩
theorem EV.callV(hb:∃ o,C.base.heap.get? oq=am o)(h:EV C r env (.Name x L) f)(ha:EVs C r env B fs)(d:l9 env B):EV C r env (.Call (.Name x L) B [] pos) (eCv f fs):=λA s ρ H lo Q M S F q=>k6 (h.run M S F q λS1 K Y q=>q.elim λp hp q=>by
  obtain⟨t,i⟩:=p
  refine bM (Y.toBd hp) λad l y gl O=>rwL y ?_
  refine om (P:=λh=>h.get? ad=am (bObj (bif t then "dict.get" else "set.__contains__") (.ref l.a))) (by rw[d.2];rfl) (λh Z=>(by
   exact⟨.machine,.inr (.inl rfl),(Looks.ld Z).andThen .now⟩)) (wmN (j6 ha d M S1 (F.nx K) q) λa s2 p=>?_)
  obtain⟨ps,kw⟩:=a
  obtain⟨G,S2,E,rs,q⟩:=p
  subst G
  have c:=(E.imm _ _ O (by simp [aY]) λz=>bv z (by simp [qV])).1
  refine⟨c,?_⟩
  have N:=K.trans E
  have g:=aR E.pre gl
  cases t with
  |true=>
   replace q:=show Lf (twoV _) _ from q
   refine q.elim λkv v q=>q.elim λd U q=>xE (t7 S2 g (xZ U)) λkvs D=>jC ((by
    intro ρ h w vs p r e
    refine xEE (sZ e rfl (λ_=>rfl) λ_ _ _ _=>rfl) λ_ _ z=>?_;subst z
    refine xEA (dy.mp e) λk j e=>bM r.a2 λa b J X R=>rwL J ?_
    refine xE (X.tiE j) λt A=>rwL A ?_
    exact cxP e ⟨t,b,rfl,R⟩:∀{ρ:aq Lc}{h:kh}{w:aq bt}{vs:aq V}{p:Int×V}(r:VRs ρ h w vs)(e:twoV vs=am p),∃ t u,w= [.int p.1 t,u]/\VR ρ h u p.2) rs v) λt u e m=>?_
   subst e
   refine aB7 hb S2 D c ?_
   rcases(D.f kv.1).same with ⟨e,I⟩ |⟨x',v',e,I,rv⟩
   ·rw[e];rw[I]at q;exact bQ.from N (.tok S2 m q)
   ·rw[e];rw[I]at q;exact bQ.from N (.tok S2 rv q)
  |false=>
   replace q:=show Lf ((one _).bind Ti) _ from q
   refine q.elim λk j q=>xEA (bn.mp j) λv W j=>xEA (jM rs W) λu e m=>?_
   subst e
   refine xE (m.tiE j) λt k=>rwL k ?_
   exact kF (S2.objs i _ l q.1 g) λg1 g2 n t T hf=>aB6 c T hf (bQ.from N (.tok S2 (.bool _) q.2)))
theorem Room.deeper(h:Room (r+1) A)(env:Env):Room r (A.deeper env):=by
 refine xAA h λh1 a b=>⟨h1,(A30 a:A.depth+1+10*r<=700),?_⟩
 ·exact(zzM1 0x147ea0f69068f83f68000007ea0f41f69001a3ea00007 [A.units,r] ⋯ b:A.units+3+40*r<=8000)
def lo0:Lo:=λq=>ba
def loB:aq Str->aq V->Lo->Lo
 |x::xs,v::vs,lo=>loB xs vs (upd lo x v)
 |_,_,lo=>lo
theorem aGw(c:Str->bc ko)(xs:aq Str):∀ {us:aq bt}{vs:aq V}{m cm:Str->bc bt}{lo:Lo},VRs ρ h us vs->us.length=xs.length-> (∀ x∈xs,c x=am .local\/c x=am .cell)-> (∀ x,c x=am .local->OV ρ h (m x) (lo x))->(∀ x,c x=am .cell->OV ρ h (cm x) (lo x))-> (∀ x,c x=am .local->OV ρ h (bindL c (xs.zip us) m x) (loB xs vs lo x))/\(∀ x,c x=am .cell->OV ρ h (bindC c (xs.zip us) cm x) (loB xs vs lo x)):=by
 induction xs with
 |nil=>
  intro us vs m cm lo r f _ a b
  cases r with
  |nil=>exact⟨a,b⟩
  |cons=>exact bv f (Nat.succ_ne_zero _)
 |cons x xs k=>
  intro us vs m cm lo r f g i j
  cases r with
  |nil=>exact bv f (Nat.succ_ne_zero _).symm
  | @cons u us v vs a b=>
  simp only[List.zip_cons_cons,bindL,bindC,(by exact λx xs v vs lo=>rfl:∀(x:Str)(xs:aq Str)(v:V)(vs:aq V)(lo:Lo),loB (x::xs) (v::vs) lo=loB xs vs (upd lo x v))]
  refine Or.elim (g x c3) (λq=>?_) λq=>?_
  ·refine rwL (ca q) (rwL (ca q) (k b (Nat.succ.inj f) (λy d=>g y (eh _ d)) (λy d=>?_) (λy d=>?_)))
   ·by_cases e:y=x
    ·simp [upd,e];exact a
    ·simp [upd,e];exact i y d
   ·have e:y≠x:=by rintro rfl;cases (q▸d)
    simp [upd,e];exact j y d
  ·have l: ¬c x=am .local:=by rw[q];intro z;cases z
   refine rwL (bz l) (rwL (bz l) (k b (Nat.succ.inj f) (λy d=>g y (eh _ d)) (λy d=>?_) (λy d=>?_)))
   ·have e:y≠x:=by rintro rfl;cases (q▸d)
    simp [upd,e];exact i y d
   ·by_cases e:y=x
    ·simp [upd,e];exact a
    ·simp [upd,e];exact j y d
set_option tactic.hygienic true in
theorem fS:∀ (a:aq (Str×ko)) (n:Nat) (acc:aq (Str×d3)),(acc.lookup x).isSome=be\/(∃ k,(x,k)∈a/\k= .cell)->((cellsFrom n a acc).lookup x).isSome=be:=λl=>by
 induction l with
 |nil=>
  intro _ _ h
  rcases h with h |⟨k,h,_⟩
  ·exact h
  ·cases h
 |cons g r f=>
  obtain⟨y,k⟩:=g
  intro n acc h
  unfold cellsFrom
  split
  ·rename_i d
   refine f (n+1) _ ?_
   rcases h with h |⟨c,h,b⟩
   ·left
    simp only[List.lookup]
    split
    ·rfl
    ·exact h
   ·refine Or.elim (e6.mp h) (λe=>?_) λe=>?_
    ·refine cxP e ?_;left;simp [List.lookup]
    ·exact .inr ⟨c,e,b⟩
  ·rename_i d
   refine f n _ ?_
   rcases h with h |⟨c,h,b⟩
   ·exact .inl h
   ·refine Or.elim (e6.mp h) (λe=>?_) λe=>?_
    ·cases e;subst b;exact bv rfl d
    ·exact .inr ⟨c,e,b⟩
structure Def(C:Cx)(a:d3)(fd:uw)(body:aq jg):Prop where
 obj:∃ o,C.base.heap.get? a=am o/\o.data= .func fd
 code:C.base.heap.CodeRec fd.code fd.qualname
 body:fd.body= .stmts body
 clo:fd.closure= []
 gl:fd.globals=gw
 bi:fd.builtins=kl
 kind:fd.scope.kind= .function
 co:fd.scope.isCoroutine=false
 free:∀ x:Str,fd.scope.names.lookup x≠am .free
theorem Fm.call{a:d3}(D:Def C a fd body)(S:Sim C H ρ s)(w:VRs ρ s.heap us vs)(u:us.length=d.length)(z:∀ x∈d,fd.scope.names.lookup x=am .local\/fd.scope.names.lookup x=am .cell)(I:InCallC s (kq fd s.heap.objs.size a).locals (bindL (kq fd s.heap.objs.size a).kindOf (d.zip us) λA=>ba) (kq fd s.heap.objs.size a).cells (bindC (kq fd s.heap.objs.size a).kindOf (d.zip us) λA=>ba) s1):Sim C H ρ s1/\Nx ρ noW s ρ s1/\Fm C (kq fd s.heap.objs.size a) ρ s1 (loB d vs lo0)/\(∀ b,Wr (kq fd s.heap.objs.size a) b->s.heap.get? b=ba):=by
 obtain⟨⟨⟨h',tk,e⟩,ns,f,l⟩,i,j,h⟩:=I
 subst e
 have k:∀ b,Wr (kq fd s.heap.objs.size a) b->s.heap.get? b=ba:=by
  rintro b (rfl |⟨x,hx⟩)
  ·exact aU _
  ·cases q:s.heap.get? b with
   |none=>rfl
   |some o=>exact bv (show s.heap.objs.size<b from (h x b (mem_of_lookup hx))) (Nat.not_lt.mpr (Nat.le_of_lt (Heap.lt_size q)))
 have B:=aGw (ρ:=ρ) (kq fd s.heap.objs.size a).kindOf d (m:=λA=>ba) (cm:=λA=>ba) (lo:=lo0) (w.mono (cc ρ) (dM f).im) u z (λA A=>trivial) (λA A=>trivial)
 refine⟨(S.ext f),(.ext f),⟨D.kind,D.gl,D.bi,⟨_,ns,B.1⟩,λx hx=>?_,λb p=>⟨fC S (k b p),eA S (k b p)⟩,λx c hx=>?_,λx y c hx t=>?_,?_⟩,k⟩
 ·refine Or.elim hx (λhx=>(xE (qf.mp (fS _ _ _ (.inr ⟨_,mem_of_lookup hx,rfl⟩))) λc n=>xEA (i x c n) λo r v=>⟨c,o,_,n,r,v,B.2 x hx⟩)) λhx=>?_
  ·exact bv hx (D.free x)
 ·exact λq=>(Nat.lt_irrefl _ (q▸(h x c (mem_of_lookup hx))))
 ·exact name_of_addr j (mem_of_lookup hx) (mem_of_lookup t)
 ·rintro b (rfl |⟨x,hx⟩)
  ·exact i6 ns λo A A g A=>⟨o,g⟩
  ·exact xEA (i x b hx) λo g A=>⟨o,g⟩
theorem Nx.leave(a:Nx ρ noW s ρ d)(b:Nx ρ W d c s1)(f:∀ x,W x->s.heap.get? x=ba):Nx ρ noW s c s1:=by
 have T:=a.wr.trans b
 exact⟨T.pre,T.new,λx o e g h=>T.kp x o e g (λq=>by cases ((f x q)▸e)),T.imm,T.al⟩
def kK(Q:EK):SK:=λfl q H=>match fl with | .ret v=>Q v H | .next=>Q .none H |_=>f7
def jG(names:aq Str)(more:aq V)(f:SF):CF:=λvs H Q=>(vs++more).length=names.length/\f (loB names (vs++more) lo0) H (kK Q)
def Binds(C:Cx)(fd:uw)(names:aq Str)(dflt:aq bt):Prop:=∀ (s:bo) (us:aq bt),(∀ b o,C.base.heap.get? b=am o->s.heap.get? b=am o)->(us++dflt).length=names.length->BindsTo s fd ⟨us,[]⟩ (names.zip (us++dflt))
def uI(C:Cx)(ρ:aq Lc)(s:bo)(Q:EK):qZ->bo->Prop
 | .ok (.ret x),s'=>bQ C ρ s Q x s'
 |_,_=>f7
theorem jT{a:d3}(D:Def C a fd body){b:aq Str}(j:fd.scope.isGenerator=false)(w:Binds C fd b d)(n:∀ ρ h,VRs ρ h d more)(u:∀ x∈b,fd.scope.names.lookup x=am .local\/fd.scope.names.lookup x=am .cell)(B:∀ L,SVs C r (kq fd L a) body f)(hr:Room (r+1) A)(S:Sim C H ρ s)(t:VRs ρ s.heap us vs)(e:jG b more f vs H Q):lz C.M A (.call (.ref a) ⟨us,[]⟩) (uI C ρ s Q) s:=by
 refine xEA D.obj λo v g=>xA e λhlen e=>?_
 have c:=(t.append (n _ _)).length.trans hlen
 refine codeAny_call_function hr.lt (S.keep _ _ v) g D.co j D.body (D.code.keeps S.keep) (w s us S.keep c _ _ _ _ (rwL D.clo (sr D.kind (λx k=>((λx k=>u x.1 (List.of_mem_zip k).1) x k).imp_right λq=>⟨q,fS _ _ _ (.inr ⟨_,mem_of_lookup q,rfl⟩)⟩) λenv y s1 I=>?_)))
 subst y
 refine xAAA (Fm.call D S (t.append (n _ _)) c u I) λS1 o z i=>⟨(C.lim.keeps S.keep).keeps I.toInCall.keep,codeAny_func (wmN (B s.heap.objs.size (hr.deeper _) S1 z e) λfw s2 p=>?_)⟩
 obtain⟨S2,m,E,l,q⟩:=p
 cases l with
 |ret l=>exact⟨S2,o.leave m i,l,q⟩
 |next=>exact⟨S2,o.leave m i,.none,q⟩
 |brk=>exact q.elim
 |cont=>exact q.elim
def CC(C:Cx)(r:Nat)(f:bt)(g:CF):Prop:=∀ {A:fq}{s:bo}{ρ:aq Lc}{H:MH}{us:aq bt}{vs:aq V}{Q:EK},Room r A->Sim C H ρ s->VRs ρ s.heap us vs->g vs H Q->lz C.M A (.call f ⟨us,[]⟩) (uI C ρ s Q) s
theorem CC.cv{a:d3}(c:C.base.heap.get? a=am o)(f:o.data= .func fd)(h:CC C r (.ref a) g):CV C r (.ref a) g:=by
 refine⟨λhp d=>⟨.frame,.inl rfl,(Looks.ld (d _ _ c)).andThen (by exact rwL f .now)⟩,λhr S b e=>ju (k4 (h hr S b e) λrr s' h=>?_)⟩
 rcases rr with x | (x |_ |_ |_)<;>first |exact h |exact h.elim
theorem CV.def_{a:d3}(D:Def C a fd body){b:aq Str}(g:fd.scope.isGenerator=false)(i:Binds C fd b c)(n:∀ ρ h,VRs ρ h c more)(l:∀ x∈b,fd.scope.names.lookup x=am .local\/fd.scope.names.lookup x=am .cell)(m:∀ L,SVs C r (kq fd L a) body f):CV C (r+1) (.ref a) (jG b more f):=let ⟨_,k,d⟩:=D.obj
 CC.cv k d λhr S j e=>jT D g i n l m hr S j e
def iS(cells:aq (Str×d3))(l:aq (Str×ko)):aq (Str×d3)->aq (Str×d3):=l.rec (λacc=>acc) λp q ih acc=>if p.2== .free then ih ((p.1,(cells.lookup p.1).getD 0)::acc) else ih acc
theorem qP{a:aq (Str×d3)}(h:(k== .free)=be):iS a ((n,k)::r) acc=iS a r ((n,(a.lookup n).getD 0)::acc):=ca h
theorem qQ{a:aq (Str×d3)}(h: ¬(k== .free)=be):iS a ((n,k)::r) acc=iS a r acc:=bz h
theorem kY(f:Str×ko->aq (Str×d3)->Sem (ForInStep (aq (Str×d3))))(o:∀ name b k,f (name,b) k=if b== .free then(do let a<-cellOf env name;pure (.yield ((name,a)::k))) else pure (.yield k)):∀ (d:aq (Str×ko)) (acc:aq (Str×d3)) (Q:aq (Str×d3)->bo->Prop),(∀ p∈d,p.2= .free->∃ c,env.cells.lookup p.1=am c)-> Q (iS env.cells d acc) s->bw M A (forIn d acc f) Q E s:=λn=>by
 induction n with
 |nil=>
  exact λacc Q q h=>(rwL u0 (zzP h))
 |cons m r l=>
  obtain⟨name,b⟩:=m
  intro acc Q i h
  rw[lw,o]
  by_cases g:(b== .free)=be
  ·rw[ca g]
   rw[qP g]at h
   refine xE (i (name,b) c3 (by simpa using g)) λc e=>?_
   rw[e]at h
   exact zzB (zzB (wpAny_cellOf e (zzP (l _ Q (λp j=>i p (eh _ j)) h))))
  ·exact rwL (bz g) (zzB (zzP (l _ Q (λp j=>i p (eh _ j)) (rwR (qQ g) h))))
def w8(env:Env)(n:Str)(k:ko):ec:=k== .free && env.scope.kind== .function && env.kindOf n==am .cell
def hF(env:Env)(sc:rq)(L:d3):Env:={(newEnv sc L env.globals (iS env.cells sc.names []) env.qual ba .none (am env) kl) with scope:= {sc with names:=sc.names.map λp=>if w8 env p.1 p.2 then(p.1,.cell) else(p.1,p.2)}}
theorem p9{f:Str->ko->ko}:∀ l:aq (Str×ko),(l.map λp=>(p.1,f p.1 p.2)).lookup x=(l.lookup x).map (f x)
 | []=>rfl
 | (n,k)::r=>by
  simp only[kn,List.lookup]
  cases h:x==n with
  |true=>obtain rfl:=kr.mp h;rfl
  |false=>exact p9 r
theorem j4(env:Env)(a:rq)(L:d3)(x:Str):(hF env a L).kindOf x=(a.names.lookup x).map λk=>if w8 env x k then .cell else k:=by
 show(a.names.map λp=>if w8 env p.1 p.2 then(p.1,NameKind.cell) else(p.1,p.2)).lookup x=_
 rw[<-p9 (f:=λn k=>if w8 env n k then .cell else k)]
 congr 1
 refine ot λp q=>?_
 split<;>rfl
structure mT(env:Env)(sc:rq)(hid:aq Str):Prop where
 kind:sc.kind= .function
 nocell:(sc.names.all λp=>p.2 != .cell)=be
 free:(sc.names.all λp=>p.2 != .free || (env.kindOf p.1==am .cell))=be
 hid:(sc.names.all λp=>p.2 != .local || (sc.names.lookup p.1==am .local && hid.contains p.1))=be
def hide(hid:aq Str)(lo:Lo):Lo:=λx=>if hid.contains x then ba else lo x
theorem Fm.comp(K:mT env j t)(V:∀ x∈t,j.names.lookup x≠am .free)(S:Sim C H ρ s)(F:Fm C env ρ s lo)(O:s.heap.get? L=ba)(D:s1.heap.Ns L λ_=>ba)(N:Nx ρ noW s ρ s1):Fm C (hF env j L) ρ s1 (hide t lo)/\(∀ b,Wr (hF env j L) b->b=L\/Wr env b):=by
 have B:∀ p∈j.names,p.2= .free->∃ c,env.cells.lookup p.1=am c:=λp v i=>by
  have h:=iu.mp K.free p v
  rw[i]at h
  simp at h
  exact i6 (F.cl p.1 (.inl h)) λc _ _ m _=>⟨c,m⟩
 have d:∀ x c,(hF env j L).cells.lookup x=am c->env.cells.lookup x=am c:=λx c h=>by
  refine Or.elim ((by
   exact λ{a x c}=>λl=>by
     induction l with
     |nil=>
      exact λ_ _ h=>(.inl h)
     |cons I r G=>
      obtain⟨n,k⟩:=I
      intro acc m h
      by_cases i:(k== .free)=be
      ·refine Or.elim (G _ (λp v=>m p (eh _ v)) (rwR (qP i) h)) (λq=>?_) λq=>?_
       ·refine Or.elim (e6.mp q) (λe=>?_) λe=>?_
        ·cases e
         refine xE (m (x,k) c3 (by simpa using i)) λc E=>?_
         right;simp at E;rw[E];rfl
        ·exact .inl e
       ·exact .inr q
      ·exact G _ (λp v=>m p (eh _ v)) (rwR (qQ i) h):∀{a:aq (Str×d3)}{x:Str}{c:d3},∀ (f:aq (Str×ko)) (acc:aq (Str×d3)),(∀ p∈f,p.2= .free->∃ c,a.lookup p.1=am c)->(x,c)∈iS a f acc->(x,c)∈acc\/a.lookup x=am c) j.names [] B (mem_of_lookup h)) (λq=>?_) λq=>?_
  ·cases q
  ·exact q
 have J:∀ b,Wr (hF env j L) b->b=L\/Wr env b:=by
  rintro b (rfl |⟨x,hx⟩)
  ·exact .inl rfl
  ·exact .inr (.inr ⟨x,d x b hx⟩)
 have Q:=F.next N λ_ _ q=>q
 refine⟨⟨K.kind,F.gl,F.bi,⟨_,D,λx hx=>?_⟩,λx hx=>?_,λb M=>?_,λx c m=>?_,λx y c hx U=>F.inj x y c (d x c hx) (d y c U),λb M=>?_⟩,J⟩
 ·rw[j4]at hx
  have Y:t.contains x=be:=by
   cases i:j.names.lookup x with
   |none=>cases (i▸hx)
   |some k=>
    rw[i]at hx
    simp only[qd,Option.some.injEq]at hx
    split at hx
    ·cases hx
    ·subst hx
     have h:=iu.mp K.hid _ (mem_of_lookup i)
     simp at h
     simpa using h.2
  delta hide
  rw[ca Y]
  trivial
 ·rw[j4]at hx
  have w:j.names.lookup x=am .free:=by
   cases i:j.names.lookup x with
   |none=>rw[i]at hx;refine Or.elim hx (λhx=>?_) λhx=>?_<;>cases hx
   |some k=>
    have P:=iu.mp K.nocell _ (mem_of_lookup i)
    rw[i]at hx
    simp only[qd,Option.some.injEq]at hx
    by_cases z:w8 env x k=be
    ·have:=by unfold w8 at z;simp at z;exact z.1.1
     rw[this]
    ·rw[bz z]at hx
     refine Or.elim hx (λhx=>?_) λhx=>?_
     ·subst hx;simp at P
     ·rw[hx]
  have R:env.kindOf x=am .cell:=by
   simpa using (iu.mp K.free _ (mem_of_lookup w))
  refine d5 (Q.cl x (.inl R)) λc o u T P Z X=>xE (qf.mp ((by
   exact λ{a x}=>λl=>by
     induction l with
     |nil=>
      refine λ_ _ h=>(Or.elim h (λh=>h) λh=>?_)
      ·cases h
     |cons I r G=>
      obtain⟨n,k⟩:=I
      intro acc m h
      by_cases i:(k== .free)=be
      ·refine rwL (qP i) (G _ (λp v=>m p (eh _ v)) (Or.elim h (λh=>?_) λh=>?_))
       ·left
        simp only[List.lookup]
        split
        ·rfl
        ·exact h
       ·refine Or.elim (e6.mp h) (λe=>?_) λe=>?_
        ·refine cxP e ?_;left;simp [List.lookup]
        ·exact .inr e
      ·refine rwL (qQ i) (G _ (λp v=>m p (eh _ v)) (Or.elim h (λh=>(.inl h)) λh=>?_))
       ·refine Or.elim (e6.mp h) (λe=>?_) λe=>?_
        ·cases e;exact bv rfl i
        ·exact .inr e:∀{a:aq (Str×d3)}{x:Str},∀ (f:aq (Str×ko)) (acc:aq (Str×d3)),(∀ p∈f,p.2= .free->∃ c,a.lookup p.1=am c)->(acc.lookup x).isSome=be\/(x,NameKind.free)∈f->((iS a f acc).lookup x).isSome=be) j.names [] B (.inr (mem_of_lookup w)))) λc' A=>cyS (T▸(d x c' A)) λzq=>?_;subst zq
  refine⟨c,o,u,A,P,Z,?_⟩
  delta hide
  exact rwL (bz (λq=>V x (by simpa using q) w)) X
 ·rcases J b M with rfl |q
  ·exact⟨fC S O,eA S O⟩
  ·exact Q.own b q
 ·intro q
  have W:c=L:=q
  refine xE (F.alv L (.inr ⟨x,d x L (rwR W m)⟩)) λo z=>?_
  cases (O▸z)
 ·rcases J b M with rfl |q
  ·exact i6 D λo _ _ g _=>⟨o,g⟩
  ·exact Q.alv b q
def LW(env:Env):d3->Prop:=λb=>b=env.locals
noncomputable abbrev ALV(C:Cx)(r:Nat)(env:Env)(t:Expr)(f:AF):Prop:=AVW C LW r env t f
theorem ALV.name{pos}(a:env.kindOf x=am .local):ALV C r env (.Name x pos) (aN x):=λq q q q q q q q q S F rv e=>sy (hI (W:=LW env) S F rv (.inl ⟨a,rfl⟩) λq S N F=>⟨S,N,F,e⟩)
noncomputable abbrev ALVs(C:Cx)(r:Nat)(env:Env)(ts:aq Expr)(f:AFs):Prop:=qU C LW r env ts f
theorem ALV.tuple{b:aq Expr}{pos}(h:ALVs C r env b g)(c:(gj b env).length=n)(a:(gj b env).findIdx? (·.1)=ba):ALV C r env (.Tuple b k pos) (uF n g):=AVW.tuple h c a
def gR(K:ItK C):Prop:=∀ {A:fq}{s:bo}{ρ:aq Lc}{H:MH}{it:K.σ}{x:bt}{X:d3->Prop}{Q:bt->bo->Prop},Sim C H ρ s->(∃ y,K.nx it H y)->K.rel ρ s it x X->Q x s->bw C.M A (vn x) Q NoE s
theorem gR.list:gR (bB C):=by
 rintro A s ρ H it x X Q _ _ ⟨a,rfl,rfl,l,c,b⟩ h
 exact wpAny_pyIter_listiter b h
theorem gR.range:gR (kU C):=by
 rintro A s ρ H it x X Q _ _ ⟨a,rfl,rfl,b⟩ h
 exact wpAny_pyIter_rangeiter b h
theorem gR.enum:gR (lN C):=by
 rintro A s ρ H it x X Q _ _ R h
 cases R with
 |mk b d a c=>exact wpAny_pyIter_enum a h
def CnV(C:Cx)(r:Nat)(env:Env)(cs:aq Expr)(f:TF):Prop:=∀ ⦃A:fq⦄⦃s:bo⦄⦃ρ:aq Lc⦄⦃H:MH⦄⦃lo:Lo⦄⦃Q:ec->MH->Prop⦄,Room r A->Sim C H ρ s->Fm C env ρ s lo->f lo H Q->
  bw C.M A (forIn cs be λc ok=>if ok=be then(do let ok<-PySem.isTrue c env (jc c env);pure (ForInStep.yield ok)) else pure (ForInStep.yield ok)) (nJ C ρ s Q) NoE s
theorem CnV.nil:CnV C r env [] (tK be):=by
 exact λA s ρ H lo Q a S F e=>(rwL u0 (zzP ⟨S,.refl,e⟩))
theorem CnV.cons{a:aq Expr}(h:TV C r env c f)(hs:CnV C r env a g):CnV C r env (c::a) (bC f g):=by
 intro A s ρ H lo Q i S F q
 rw[lw,ca rfl]
 exact zzB (zzB (h.run i S F q λ{b l l l} j e q=>zzP (match b,q with
  |true,q=>wmN (hs i j (F.nx e) q) λl l p=>p.from e
  |false,q=>(by
   exact λ{env M A E s Q}=>λn=>by
     induction n with
     |nil=>
      exact λh=>(rwL u0 (zzP h))
     |cons c a k=>
      intro h
      rw[lw,bz (by decide)]
      exact zzB (zzP (k h)):∀{env:Env}{M:wg}{A:fq}{E:bt->bo->Prop}{s:bo}{Q:ec->bo->Prop},∀ a:aq Expr,Q false s->bw M A (forIn a false λc d=>if d=be then(do let d<-PySem.isTrue c env (jc c env);pure (ForInStep.yield d)) else pure (ForInStep.yield d)) Q E s) _ ⟨j,e,q⟩)))
noncomputable abbrev LK:=Lo->MH->Prop
noncomputable abbrev BF:=Nat->Lo->MH->LK->Prop
def aAx(elt:Expr)(gens:aq lx)(sc:rq)(pos:Pos)(d:Nat)(acc:bt)(env:Env)(K:Sem PySem.Fin):Sem PySem.Fin:=
 match gens[d+1]? with
 |some g'=>do
  let x<-jc g'.iter env
  wk g'.iter.pos
  if (g'.is_async != 0)=be then do
    let x<-foldedIterable g'.iter x
    let it<-sx [x] (if (g'.is_async != 0)=be then asyncIter x else vn x)
    let _<-runOwn (Code.compStart (elt.ListComp gens sc pos) (d+1) it acc env) env
    K
   else do
    let x<-ip g'.iter env x
    let it<-sx [x] (if (g'.is_async != 0)=be then asyncIter x else vn x)
    let _<-runOwn (Code.compStart (elt.ListComp gens sc pos) (d+1) it acc env) env
    K
 |none=>(do
   let v<-jc elt env
   let _<-call (Value.builtin "list.append") [acc,v]
   pure ():Sem PUnit) >>=λq=>K
def BV(C:Cx)(r:Nat)(env:Env)(elt:Expr)(gens:aq lx)(sc:rq)(pos:Pos)(d:Nat)(bf:BF):Prop:=∀ ⦃A:fq⦄⦃s:bo⦄⦃ρ:aq Lc⦄⦃H:MH⦄⦃lo:Lo⦄⦃Q0:LK⦄⦃ai:Nat⦄⦃l:Lc⦄⦃Q:PySem.Fin->bo->Prop⦄⦃K:Sem PySem.Fin⦄,Room r A->Sim C H ρ s->Fm C env ρ s lo->ρ[ai]? =am l->bf ai lo H Q0->
  (∀ {s' ρ' lo' H'},Sim C H' ρ' s'->Nx ρ (LW env) s ρ' s'->Fm C env ρ' s' lo'->Q0 lo' H'->bw C.M A K Q NoE s')->bw C.M A (aAx elt gens sc pos d (.ref l.a) env K) Q NoE s
def bA(f:EF):BF:=λai lo H Q=>f lo H λv H1=>Lf (H1[ai]?.bind MO.own) λvs=>vs.length<1000000/\Q lo (H1.set ai (.list (vs++[v])))
theorem BV.last{b:Expr}(h:EV C r env b f)(i:gens[d+1]? =ba):BV C r env b gens v pos d (bA f):=by
 intro A s ρ H lo z y l Q K o S F t q u
 delta aAx
 refine rwL i (zzB (zzB (h.run o S F q λ{x s1 j w H1} e c m q=>q.elim λvs p q=>(xEE (jL e (aR c.pre t) (kO p)) λxs n O=>?_))))
 have g:xs.size<=ur:=by exact rwL ez (A33 O.r.sz q.1)
 refine zzB (fu slot_list_append ⟨_,O.x,rfl⟩ entry_list_append ?_ (args_list_append _ _))
 show bw _ _ (updateSeq l.a (·.push x) >>=λB=>ret .none) _ _ s1
 refine zzB (q4 O.x rfl (zzP ⟨.none,rfl,zzP ?_⟩) g (by rw[Array.size_push];exact rz g))
 have st:=O.put (k:=s1.toks) e (λxs=>xs.push x) (by simpa using O.r.append (.cons m .nil))
 exact u st.1 (c.trans (st.2 _)).wr (F.nx (c.trans (st.2 _))) q.2
def lE(K:ItK C)(tgt:AF)(t:TF)(bf:Lo->MH->LK->Prop):Nat->K.σ->Lo->MH->LK->Prop
 |0,_,_,_,_=>f7
 |n+1,it,lo,H,Q=>K.nx it H λres H1=>match res with
  |none=>Q lo H1
  |some p=>tgt p.1 lo H1 λlo1 H2=>t lo1 H2 λb H3=>bif b then bf lo1 H3 (λlo2 H4=>lE K tgt t bf n p.2 lo2 H4 Q) else lE K tgt t bf n p.2 lo1 H3 Q
inductive CEnd(C:Cx)(env:Env)(ρ0:aq Lc)(s0:bo)(ai:Nat)(l:Lc)(Q:LK)(s':bo):Prop
 |mk {ρ':aq Lc}{lo':Lo}{H':MH} (S:Sim C H' ρ' s') (N:Nx ρ0 (LW env) s0 ρ' s') (F:Fm C env ρ' s' lo') (hl:ρ'[ai]? =am l) (q:Q lo' H'):CEnd C env ρ0 s0 ai l Q s'
def qT(C:Cx)(env:Env)(ρ0:aq Lc)(s0:bo)(ai:Nat)(l:Lc)(Q:LK):qZ->bo->Prop
 | .ok _,s'=>CEnd C env ρ0 s0 ai l Q s'
 | .error _,_=>f7
theorem lW{K:ItK C}(O:gens[d]? =am ⟨target,iter,g,0⟩)(ac:gR K)(W:ALV C r env target tgt)(Y:CnV C r env g t)(hb:BV C r env c gens w pos d B)(h:K.tg target/\K.need<=r)(n:Nat){it:K.σ}(v:Room r A)(I:ρ[ai]? =am l)(N:Nx ρ0 (LW env) i ρ s)(S:Sim C H ρ s)(F:Fm C env ρ s lo)(R:K.rel ρ s it x X)(f:Apart C env ρ i X)(e:lE K tgt t (B ai) n it lo H Q):lz C.M A (.compStart (.ListComp c gens w pos) d x (.ref l.a) env) (qT C env ρ0 i ai l Q) s:=by
 have L:=(by
  exact λ{C r env K c target iter g gens w pos d tgt t B} O W Y hb h {ai l}=>λk=>by
    induction k with
    |zero=>
     intro _ _ _ _ _ _ _ _ _ _ _ _ _ _ _ _ _ _ e
     exact e.elim
    |succ n ih=>
     intro A i s ρ0 ρ H lo it x X Q v I N S F R f e
     refine ny (rwL (Around.under_of_weight rfl rfl) (lu (f4 (E:=NoE) ?_ (λ_ _ z=>z) (λ_ _ z=>z.elim))))
     delta compTurn
     simp only[O]
     refine zzB (f5 (zzB (wmN (K.next h.2 v S R f.two e) λo s1 p=>?_)))
     cases p with
     |done S1 m q=>exact zzP ⟨S1,N.stepI m (λb q=>(f b q).1),F.nextI m (λb J q=>(f b q).2.2.2 J),aR m.pre I,q⟩
     |item S1 m ru R1 q=>
      have j:Apart C env _ i X:=λb q=>xE (K.alive R b q) λo' T=>⟨(f b q).1,m.owns T (f b q).2.1,(f b q).2.2⟩
      refine zzB (wmN (K.lgo v S1 R1 h.1 j.two) λ_ s2 p=>(xAA p λS2 V R2=>?_))
      have P:∀ {D Z U H5},Sim C H5 D Z->Nx _ (LW env) s2 D Z->Fm C env D Z U->lE K tgt t (B ai) n _ U H5 Q->
        lz C.M A (.compLoop (.ListComp c gens w pos) d x (.ref l.a) env) (qT C env ρ0 i ai l Q) Z:=λS5 u F5 e5=>
       ih v (aR u.pre (aR m.pre I)) (((N.stepI m (λb q=>(f b q).1)).stepI V (λb q=>(f b q).1)).trans u) S5 F5 (K.mono R2 u.pre u.imm (λb o q T=>u.kp b o T (j b q).2.1 (λz=>(f b q).2.2.2 (.inl z))))
        (λb z=>xE (K.alive R2 b z) λo' T=>⟨(f b z).1,u.own T (j b z).2.1,(f b z).2.2⟩) e5
      refine zzB (eV.run (α:=uq) (W v S2 ((F.nextI m (λb J q=>(f b q).2.2.2 J)).nextI V (λb J q=>(j b q).2.2.2 J)) (ru.mono V.pre V.imm) q) λS3 N3 F3 q=>zzB (wmN (Y v S3 F3 q) λok s4 p=>?_))
      obtain⟨S4,N4,q⟩:=p
      have G:=N3.trans N4.wr
      cases ok with
      |false=>
       exact rwL (bz (by decide)) (zzP ⟨rfl,P S4 G (F3.nx N4) q⟩)
      |true=>
       exact rwL (ca rfl) (hb v S4 (F3.nx N4) (aR G.pre (aR m.pre I)) q λS5 u F5 q=>zzP ⟨rfl,P S5 (G.trans u) F5 q⟩):∀{C:Cx}{r:Nat}{env:Env}{K:ItK C}{c target iter:Expr}{g:aq Expr}{gens:aq lx}{w:rq}{pos:Pos}{d:Nat}{tgt:AF}{t:TF}{B:BF}(O:gens[d]? =am ⟨target,iter,g,0⟩)(W:ALV C r env target tgt)(Y:CnV C r env g t)(hb:BV C r env c gens w pos d B)(h:K.tg target/\K.need<=r){ai:Nat}{l:Lc},∀ (n:Nat){A:fq}{i s:bo}{ρ0 ρ:aq Lc}{H:MH}{lo:Lo}{it:K.σ}{x:bt}{X:d3->Prop}{Q:LK},Room r A->ρ[ai]? =am l->Nx ρ0 (LW env) i ρ s->Sim C H ρ s->Fm C env ρ s lo-> K.rel ρ s it x X->Apart C env ρ i X->lE K tgt t (B ai) n it lo H Q-> lz C.M A (.compLoop (.ListComp c gens w pos) d x (.ref l.a) env) (qT C env ρ0 i ai l Q) s) O W Y hb h n v I N S F R f e
 have aa:∃ y,K.nx it H y:=by
  cases n with
  |zero=>exact e.elim
  |succ n=>exact⟨_,e⟩
 refine ny (rwL (Around.under_of_weight rfl rfl) (lu (f4 (E:=NoE) ?_ (λ_ _ z=>z) (λ_ _ z=>z.elim))))
 delta compStart
 refine rwL (rfl:clausesOf (.ListComp c gens w pos)=gens) (rwL O (zzB (wpAny_askSetting (wpAny_ite ?_))))
 split
 ·first
   |exact zzB (zzP (zzP (And.intro rfl L)))
   |exact zzP (And.intro rfl L)
 ·exact zzB (pt (zzB (f5 (zzB (ac S aa R (zzP (And.intro rfl L)))))))
theorem aGy{K:ItK C}{a:aq Lc}{s2:bo}(F:Fm C env ρ s lo)(c:∀ b,X b->s.heap.get? b=ba/\¬Own a b/\C.base.heap.get? b=ba):Apart C env a s X:=λb q=>
 ⟨(c b q).1,(c b q).2.1,(c b q).2.2,λhw=>by refine xE (F.alv b hw) λo d=>?_;cases (((c b q).1)▸d)⟩
def lZ(K:ItK C)(fi:IF K)(tgt:AF)(t:TF)(bf:BF):BF:=λai lo H Q=>fi lo H λit H1=>∃ n,lE K tgt t (bf ai) n it lo H1 Q
theorem BV.more{K:ItK C}{b:Expr}{a:aq Expr}{m:IF K}(i:gens[d+1]? =am ⟨target,iter,a,0⟩)(g:gR K)(L:IV K r env iter m)(z:ALV C r env target tgt)(G:CnV C r env a t)(J:BV C r env b gens o pos (d+1) j)(e:K.tg target/\K.need<=r)(hs:∀ x,ip iter env x=pure x):BV C r env b gens o pos d (lZ K m tgt t j):=by
 intro A s ρ H lo N M l Q K' k S F D q I
 delta aAx
 refine rwL i (zzB (wmN (L k S F q) λx s1 h=>zzB (f5 (rwL (bz (by simp)) (zzB (jy (hs x) (zzB (bx (rwL (bz (by simp)) (wmN h λy s2 p=>zzB (wpAny_runOwn ?_)))))))))))
 obtain⟨S2,c,B,v,n,q⟩:=p
 refine k4 (lW (ρ0:=ρ) i g z G J e n k (aR c.pre D) c.wr S2 (F.nx c) B (aGy (K:=K) (s2:=s2) F v) q) λrr s3 u=>?_
 cases rr with
 |ok f=>obtain⟨y,w,E,_,q⟩:=u;exact I y w E q
 |error _=>exact u.elim
theorem aGl{s:bo}{pos:Pos}{b:Sem bt}{n:bc (bt->Sem uq)}{H:aq Str}(O:clausesOf e=g::gs)(hs:∀ x,ip g.iter env x=pure x)(K:mT env i H)(o:∀ p∈i.names,p.2= .free->∃ c,env.cells.lookup p.1=am c)(h:bw M A first (λx j=>bw M A (vn x) (λit k=>bw M A b (λacc a=> ∀ h₄,h₄.Ns a.heap.objs.size (λX=>ba)->Heap.SameBut a.heap.objs.size (a.heap.push {cls:=.type "dict",data:=.dict #[]}) h₄->
    lz M A (.compStart e 0 it acc (hF env i a.heap.objs.size)) (λr s'=>match r with
     | .ok _=>(∃ m,s'.heap.Ns a.heap.objs.size m)/\(match n with
      |none=>∀ h',Heap.SameBut a.heap.objs.size s'.heap h'->Q acc {s' with heap:=h'}
      |some u=>bw M A (u acc) (λX d=>(∃ m,d.heap.Ns a.heap.objs.size m)/\∀ h',Heap.SameBut a.heap.objs.size d.heap h'->Q .none {d with heap:=h'}) E s')
     | .error _=>f7) {a with heap:=h₄}) E k) E j) E s):
  bw M A (vg e i env pos b false first n) Q E s:=by
 delta vg
 refine rwL O ?_
 refine zzB (f4 h (λx j D=>zzB (f5 (zzB (jy (hs x) (zzB (bx (f4 D (λit k y=>
  wpAny_standIf (zzB (f4 y (λacc a w=>?_) λX X h'=>h'))) λX X h'=>h'))))))) λX X h'=>h')
 have B:∀ {G:aq (Str×d3)->bo->Prop},G (iS env.cells i.names []) a->bw M A (closureFor i env) G E a:=by
  intro G F
  delta closureFor
  refine zzB (kY _ (λname v W=>by cases L:v==NameKind.free<;>simp [L]) i.names [] _ o (zzP F))
 refine zzB (B (zzB (wpAny_newFunctionEnv (λx P=>by simpa using (iu.mp K.nocell x P)) (λx P=>by cases P) (λh₄ t q=>?_) K.kind)))
 dsimp only
 have T:∀ (vs:aq (Str×ko)),(∀ p∈vs,p∈i.names)->∀ p∈vs,p.2= .local->(hF env i a.heap.objs.size).kindOf p.1=am .local:=λvs I p C U=>by
  have J:=iu.mp K.hid p (I p C)
  rw[U]at J
  simp at J
  rw[j4,J.1]
  rfl
 refine bx (zzB (ly (bx (wpAny_run (k4 (w h₄ t q) λr s' S=>?_)))))
 cases r with
 |error x=>exact S.elim
 |ok f=>
  refine xA S λz92 F=>?_;obtain⟨m,V⟩:=z92
  cases n with
  |none=>
   exact zzB (bx (wpAny_comp_letGo K.kind _ s' m (T _ λp C=>((vr.mp (List.mem_reverse.mp C)).1)) V λh' m' X l=>zzP (F h' l)))
  |some u=>
   refine zzB (pt (zzB (bx (f4 F ?_ λX X z=>z))))
   rintro _ d ⟨⟨m',N⟩,R⟩
   refine zzB (wpAny_comp_letGo K.kind _ d m' (T _ λp C=>(Or.elim (e7.mp C) (λz=>((vr.mp (List.mem_reverse.mp (List.mem_of_mem_drop z))).1)) λz=>?_)) N λh' m' X l=>zzP (R h' l))
   ·exact(vr.mp (List.mem_reverse.mp (List.mem_of_mem_take z))).1
def bU(K:ItK C)(hid:aq Str)(fi:IF K)(tgt:AF)(t:TF)(bf:BF):EF:=λlo H Q=>fi lo H λit H1=>∃ n,lE K tgt t (bf H1.length) n it (hide hid lo) (H1++[.list []]) λq H2=>Q (.ref H1.length) H2
inductive CoEnd(C:Cx)(ρ:aq Lc)(s:bo)(Q0:EK)(x:bt)(L:d3)(s':bo):Prop
 |mk {ρ' v H'} (hL:s.heap.get? L=ba) (S:Sim C H' ρ' s') (N:Nx ρ (λb=>b=L) s ρ' s') (r:VR ρ' s'.heap x v) (ho: ¬Own ρ' L) (hb:C.base.heap.get? L=ba) (hm:∃ m,s'.heap.Ns L m) (q:Q0 v H'):CoEnd C ρ s Q0 x L s'
set_option tactic.hygienic true in
theorem rZ{K:ItK C}{fi:IF K}(B:mT env d w)(hh:(w.all λx=>d.names.lookup x != am .free)=be)(ag:gR K)(hi:IV K r env iter fi)(ht:∀ L,ALV C r (hF env d L) target tgt)(W:∀ L,CnV C r (hF env d L) y t)(hb:∀ L,BV C r (hF env d L) I (⟨target,iter,y,0⟩::gs) d pos 0 bf)(af:K.tg target/\K.need<=r)(hs:∀ x,ip iter env x=pure x)(hr:Room r A)(S:Sim C H ρ s)(F:Fm C env ρ s lo)(q:bU K w fi tgt t bf lo H Q0)(hQ:∀ x L s',CoEnd C ρ s Q0 x L s'-> (match E with
    |none=>∀ h',Heap.SameBut L s'.heap h'->Q x {s' with heap:=h'}
    |some u=>bw C.M A (u x) (λ_ i=>(∃ m,i.heap.Ns L m)/\∀ h',Heap.SameBut L i.heap h'->Q .none {i with heap:=h'}) NoE s')):
  bw C.M A (vg (.ListComp I (⟨target,iter,y,0⟩::gs) d pos) d env p (newList []) false (jc iter env) E) Q NoE s:=by
 have ae:∀ p∈d.names,p.2= .free->∃ c,env.cells.lookup p.1=am c:=λp hp hk=>by
  have h:=iu.mp B.free p hp
  rw[hk]at h
  exact i6 (F.cl p.1 (.inl (se h))) λc _ _ W _=>⟨c,W⟩
 refine aGl rfl hs B ae (wmN (hi hr S F q) λx s1 hx=>wmN hx λy s2 p=>?_)
 obtain⟨S2,Z,R2,J,n,q⟩:=p
 rename_i V X it H1
 refine vi ?_ (by rw[ez];decide)
 have Y:=S2.alloc {cls:=.type "list",data:=.seq #[]} (.list []) ⟨rfl,rfl,#[],0,Heap.get?_push_size _ rfl,.nil⟩
 have N:Nx V noW s2 _ _:=.alloc {cls:=.type "list",data:=.seq #[]}
 intro h4 U T
 have a:∀ b o,(s2.heap.push {cls:=.type "list",data:=.seq #[]}).get? b=am o->h4.get? b=am o:=λb o e=>by
  exact rwL (T.2 b (md (Heap.lt_size e))) (Heap.get?_push_of_some _ e)
 have g:=N.trans (.ext (k:=s2.toks) a)
 have v:(s2.heap.push {cls:=.type "list",data:=.seq #[]}).get? (s2.heap.push {cls:=.type "list",data:=.seq #[]}).objs.size=ba:=aU _
 refine xA (Fm.comp B (λx hx=>by simpa using (iu.mp hh x hx)) Y ((F.nx Z).nx N) v U (.ext (k:=s2.toks) a)) λF4 hW=>?_
 refine k4 (lW (ρ0:=ρ) rfl ag (ht _) (W _) (hb _) af n hr (S2.last (l:=⟨s2.heap.objs.size,s2.heap.objs.size,ba⟩)) (Z.trans g).wr (Y.ext a) F4
  (K.mono R2 N.pre g.imm (λb o j O=>g.kp b o O (J b j).2.1 (λz=>z))) (λb j=>?_) q) λrr s5 hL=>?_
 ·refine xE (K.alive R2 b j) λo' O=>⟨(J b j).1,g.own O (J b j).2.1,(J b j).2.2,λhw=>(Or.elim (hW b hw) (λz=>?_) λz=>?_)⟩
  ·refine xE (N.al _ _ O) λo2 e2=>?_
   rw[z,v]at e2;cases e2
  ·refine xE (F.alv b z) λo G=>?_;rw[(J b j).1]at G;cases G
 ·cases rr with
  |error _=>exact hL.elim
  |ok f=>
   obtain⟨S5,N5,P,R,q5⟩:=hL
   exact xEA P.ns λm5 D _=>⟨⟨m5,D⟩,hQ _ _ s5 ⟨((cP (Z.trans N) Y v).1),S5,N5,.ref R,(P.own _ (.inl rfl)).1,(P.own _ (.inl rfl)).2,⟨m5,D⟩,q5⟩⟩
theorem Sim.sameL(S:Sim C H ρ s)(hs:Heap.SameBut L s.heap h')(b:∃ m,s.heap.Ns L m)(d: ¬Own ρ L)(c:C.base.heap.get? L=ba):Sim C H ρ {s with heap:=h'}/\Im ρ ρ s.heap h':=by
 refine oA b λm o h f g e q=>?_
 have a: ¬aY o:=by simp [aY,e]
 exact⟨S.side hs g a d c,(dU hs g a).im⟩
theorem Nx.gone{a:aq Lc}(d:Nx ρ (λb=>b=L\/W b) s a s1)(i:s.heap.get? L=ba)(c:Heap.SameBut L s1.heap h')(j:Im a a s1.heap h'):Nx ρ W s a {s1 with heap:=h'}:=by
 have f:∀ {b o},s.heap.get? b=am o->b≠L:=λe q=>by rw[q,i]at e;cases e
 exact⟨d.pre,d.new,λb o e g k=>(c.2 b (f e)).trans (d.kp b o e g λq=>q.elim (f e) k),d.imm.trans j,λb o e=>xE (d.al b o e) λo' h=>⟨o',(c.2 b (f e)).trans h⟩⟩
theorem EV.comp{K:ItK C}{b:aq Expr}{a:aq Str}{k:IF K}(f:mT env c a)(o:(a.all λx=>c.names.lookup x != am .free)=be)(i:gR K)(B:IV K r env iter k)(u:∀ L,ALV C r (hF env c L) target tgt)(y:∀ L,CnV C r (hF env c L) b t)(g:∀ L,BV C r (hF env c L) e (⟨target,iter,b,0⟩::gs) c pos 0 j)(h:K.tg target/\K.need<=r)(hs:∀ x,ip iter env x=pure x):EV C r env (.ListComp e (⟨target,iter,b,0⟩::gs) c pos) (bU K a k tgt t j):=by
 intro A s ρ H lo Q v S F q
 rw[eval_ListComp]
 refine rZ f o i B u y g h hs v S F q λx L s1 p h' d=>?_
 obtain⟨D,w,E,m,n,g,z,q⟩:=p
 exact xA (w.sameL d z n g) λS2 l=>⟨S2,(E.weaken λb q=>.inl q).gone D d l,m.mono (cc _) l,q⟩
set_option tactic.hygienic true in
theorem SV.assignC{K:ItK C}{J:IF K}(Y:env.kindOf x=am .local)(w:sb (.ListComp i (⟨target,iter,c,0⟩::gs) h pos) (am (.Name x d)) f.line env=pure be)(B:mT env h j)(hh:(j.all λx=>h.names.lookup x != am .free)=be)(E:gR K)(hi:IV K r env iter J)(R:∀ L,ALV C r (hF env h L) target tgt)(W:∀ L,CnV C r (hF env h L) c t)(u:∀ L,BV C r (hF env h L) i (⟨target,iter,c,0⟩::gs) h pos 0 G)(D:K.tg target/\K.need<=r)(hs:∀ x,ip iter env x=pure x):SV C r env (.Assign [.Name x d] (.ListComp i (⟨target,iter,c,0⟩::gs) h pos) f) (aV x (bU K j J tgt t G)):=by
 refine λA s ρ H lo Q hr S F q=>(rwL (exec_Assign_Name_used _ _ _ _ w) (zzB (f5 (zzB ?_))))
 rw[arm_evalThenUse_ListComp]
 refine zzB (rZ B hh E hi R W u D hs hr S F q λu L s1 p=>?_)
 obtain⟨y,T,N,r1,I,z,X,q⟩:=p
 rename_i V v2 H2
 have l: ¬Wr env L:=λhw=>by refine xE (F.alv _ hw) λo v=>?_;rw[y]at v;cases v
 refine sy (hI T (F.next N (λb u e=>by subst e;refine xE (F.alv _ u) λo v=>?_;cases (y▸v))) r1 (uL (.inl Y)) λs2 S2 O F2=>(pB X λm o Z P g A=>?_))
 have n:∃ m,s2.heap.Ns L m:=⟨m,o,Z,P,O.kp L o g I l,A⟩
 exact⟨n,λh' a=>zzP (zzP (xA (S2.sameL a n I z) λS3 M=>⟨S3,((N.weaken λb q=>.inl q).trans (O.weaken λb q=>.inr q)).gone y a M,F2.nextI ⟨cc _,λl U=>by simp at U,λb o e _ k=>(a.2 b k).trans e,M,λb o e k=>⟨o,(a.2 b k).trans e⟩⟩ (λb u e=>by subst e;exact l u),.next,q⟩))⟩
def Sg(M:wg)(A:fq)(c:Code)(t:Sem PySem.Fin)(fs:aq Frame)(Φ:End->bo->Prop)(s:bo):Prop:=∀ Γ p,Γ.code=c->Γ.Woken A->∃ e s',Runs M Γ p t fs s e s'/\Φ e s'
theorem iI{K:α->Sem PySem.Fin}{H:bt->Sem PySem.Fin}{gd}{lv}(h:bw M (A.over c fs) m (λa s'=>Sg M A c (K a) fs Φ s') (λx s'=>Sg M A c (H x) fs Φ s') s):Sg M A c (m.wrap K H gd lv) fs Φ s:=by
 rintro d p rfl b
 exact runs_wrap_of_wp K H gd lv m (h (d.over fs) p (b.over fs)) (λa e s' h'=>h' d e rfl b) (λx e s' h'=>h' d e rfl b)
theorem aDa{a:Pos}(h:Sg M A c (k ()) fs Φ s):Sg M A c (.at a k) fs Φ s:=iI (H:=.raise) (gd:=id) (lv:=id) (f5 h)
theorem aC8(h:Sg M A c (k ()) fs Φ s):Sg M A c (.point l k) fs Φ s:=iI (H:=.raise) (gd:=id) (lv:=λq=>l) (wpAny_point h)
theorem aHt{a:Code}{h}{g}{l}(i:∀ p,Sg M A a (M.den a) (.ret k h g l c p []::fs) Φ s):Sg M A c (.call a h g l k) fs Φ s:=by
 rintro d p rfl b
 exact jC (i p (d.goto a) p rfl (b.goto a)) λe s' j f=>⟨e,s',runs_call_seg j,f⟩
theorem aHs{k}{h}{g}{l}{a}{b}{i}(r:qZ)(m:Sg M A a (k r) fs Φ s):Sg M A c (leafOf r) (.ret k h g l a b i::fs) Φ s:=by
 rintro f p rfl d
 exact jC (m (f.goto a) b rfl (d.goto a)) λe s' n j=>⟨e,s',Runs.pop r n,j⟩
theorem pK{a:Code}(g:a.quiet=be)(h:Sg M A a (M.den a) fs Φ s):Sg M A c (.pure (.again a)) fs Φ s:=by
 rintro d p rfl b
 exact jC (h (d.goto a) p rfl (b.goto a)) λe s' i f=>⟨e,s',Runs.head (λq q x=>.again g x) i,f⟩
theorem aC9(r:qZ)(h:Φ (.ret r) s):Sg M A c (leafOf r) [] Φ s:=by
 rintro a p rfl _
 exact⟨.ret r,s,Runs.leaf r,h⟩
theorem aC5{v}{g}{l}(a:splitAtGen fs=ba)(h:∀ p,Φ (.susp v g l k c p fs) s):Sg M A c (.yield v g l k) fs Φ s:=by
 rintro b p rfl _
 exact⟨_,s,Runs.yield' fs a,h p⟩
def aG3(M:wg)(A:fq)(Φ:End->bo->Prop)(r:Resume)(s:bo):pH->Prop
 | .fresh c=>r= .send .none/\Sg M A c (M.den c) [] Φ s
 | .suspended k₀ _ c _ fs _=>Sg M A c (k₀ r) fs Φ s
 |_=>f7
theorem wM{Q:α->bo->Prop}(q:s.gens[g]? =am gs)(d:aG3 M A Φ r (s.setGen g .running) gs)(m:∀ e a,Φ e a->e.quiet=be/\bw M A (k e.result) Q E (a.setGen g e.genState)):bw M A (.resume g r l k) Q E s:=by
 intro j p b
 rw[Sem.wp_resume]
 cases gs with
 |fresh c=>
  refine xA d λz93 hs=>?_;subst z93
  exact jC (hs (j.wake c p) p rfl ((λc=>b.wake c p) c)) λe₁ a o h=>⟨_,_,by delta Wakes;exact rwL q ⟨e₁,a,o,(m e₁ a h).1,rfl,rfl⟩,(m e₁ a h).2 j p b⟩
 |suspended u t f i n cl=>
  exact jC (d (j.wake f p) i rfl ((λc=>b.wake c p) f)) λe₁ a o h=>⟨_,_,by delta Wakes;exact rwL q ⟨e₁,a,o,(m e₁ a h).1,rfl,rfl⟩,(m e₁ a h).2 j p b⟩
 |running=>exact d.elim
 |finished=>exact d.elim
theorem cY{K:wc->Sem PySem.Fin}{H:bt->Sem PySem.Fin}{st:jg}{a:aq jg}(h:Sg M A c ((exec st env).wrap (λf=>match f with | .next=>(pu a env).wrap K H gd lv |f=>K f) H gd lv) fs Φ s):Sg M A c ((pu (st::a) env).wrap K H gd lv) fs Φ s:=by rw[uj];exact h
theorem j8{K:wc->Sem PySem.Fin}{H:bt->Sem PySem.Fin}{a:Pos}(d:splitAtGen fs=ba)(f:gd false=false)(h:bw M (A.over c fs) (jc e env) (λv s'=>∀ l k p,k (.send .none)=K .next->Φ (.susp v false l k c p fs) s') (λx s'=>Sg M A c (H x) fs Φ s') s)(b:env.scope.isCoroutine=false)(g:qW env=false):Sg M A c ((exec (.Expr (.Yield (am e) a) pos) env).wrap K H gd lv) fs Φ s:=by
 rw[exec_Expr env _ pos g rfl]
 show Sg M A c (.at pos λq=>((jc e env >>=λv=>(wk a >>=λq=>yieldOut env v)) >>=λx=>
  dropValue (.Yield (am e) a) pos x).wrap K H gd lv) fs Φ s
 simp only[(λv=>by simp only[yieldOut,b,jv,pg]:∀ v,yieldOut env v=yieldValue v)]
 refine aDa ?_
 rw[Sem.bind_eq_wrap',Sem.bind_eq_wrap',Sem.wrap_wrap,Sem.wrap_wrap]
 exact iI (f4 h (λv s' h'=>(aDa (aC5 d λp=>(f▸(λl k p i=>h' l k p i)) _ _ p rfl))) λq q x=>x)
theorem sg_If{K:wc->Sem PySem.Fin}{H:bt->Sem PySem.Fin}{a:Expr}(h:bw M (A.over c fs) (isTrue a env (jc a env)) (λb s'=>if b=be then Sg M A c ((pu d env).wrap K H gd lv) fs Φ s' else Sg M A c ((pu e env).wrap K H gd lv) fs Φ s') (λx s'=>Sg M A c (H x) fs Φ s') s):Sg M A c ((exec (.If a d e pos) env).wrap K H gd lv) fs Φ s:=by
 rw[exec_If]
 show Sg M A c (.at _ λq=>(isTrue a env (jc a env) >>=λb=>if b=be then pu d env else pu e env).wrap K H gd lv) fs Φ s
 refine aDa ?_
 rw[Sem.bind_eq_wrap',Sem.wrap_wrap]
 refine iI (f4 h (λb s' f=>?_) λq q x=>x)
 cases b with
 |true=>exact f
 |false=>exact f
def MO.iv:MO->bc (Nat×Nat) | .itr (am p)=>am p |_=>ba
theorem iv_mo(e:m.bind MO.iv=am p):m=am (.itr (am p)):=by
 refine xEA (bn.mp e) λm b a=>rwL b ?_
 cases m with
 |itr o=>cases o with
  |none=>cases a
  |some q=>refine cxS a ?_;rfl
 |_=>cases a
inductive ItrN(C:Cx)(H:MH)(ρ:aq Lc)(s:bo)(j ci k:Nat)(vs:aq V):bc bt->bo->Prop
 |item {u v s'} (hv:vs[k]? =am v) (S:Sim C (H.set j (.itr (am (ci,k+1)))) ρ s') (N:∀ W,Nx ρ W s ρ s') (r:VR ρ s'.heap u v):ItrN C H ρ s j ci k vs (am u) s'
 |done {s'} (hv:vs[k]? =ba) (S:Sim C (H.set j (.itr ba)) ρ s') (N:∀ W,Nx ρ W s ρ s'):ItrN C H ρ s j ci k vs ba s'
theorem aE0(hr:Room r A)(S:Sim C H ρ s)(f:ρ[j]? =am l)(I:H[j]? =am (.itr (am (B,k))))(hv:lst H (.ref B)=am vs):bw C.M A (nr (.ref l.a)) (ItrN C H ρ s j B k vs) NoE s:=by
 refine q9 (S.objs j _ l I f) λg1 O li y c=>bM (b6 S (.ref y) hv) λad xs q1 P W=>?_
 cases q1
 refine c6 (id c) λo X Y L=>?_
 cases g:vs[k]? with
 |some v=>
  refine xEA (W.get g) λu hu Z=>qa c P (by simpa using hu) λh' n hs=>?_
  have st:=S.put (k:=s.toks) (h':=h') (m':=.itr (am (B,k+1))) f I g1 X (mG Y L) hs (xEA n λo2 e2 _=>⟨o2,e2⟩) (by intro _ h;cases h) (by intro _ h;cases h) λim=>⟨g1,O,li,y,n⟩
  exact .item g st.1 st.2 (Z.nx (st.2 noW))
 |none=>
  refine (by
   intro m w A E s it l i d Q R c f T K
   refine c6 (id c) λo p hc z=>yR f λol J _ nl G=>?_
   delta nr
   refine zzB (ly (e8 c.typeIs ku
    (fu ku c.typeIs rx ?_ (ss _))))
   show bw _ _ (wz (.ref it) 0 >>=_) _ _ s
   refine zzB (gx p z (x:=.ref l) rfl (rwL (bz (show¬((Value.ref l==Value.none)=be) from Bool.false_ne_true)) (zzB (gx p z rfl (zzB (hE J G ?_))))))
   simp only[jb,T]
   refine zzB (pt (zzB (qg p z (by simp) (zzB (zzB (fv (zzB (jy (a:=Value.none) (by first |rfl | (rfl)) (fv ?_ (by size_fits)))) (by size_fits)))))))
   delta raiseNew;refine zzB (s7 (rwL (show A.in1.handled=ba from R) (zzB (zzP (ux ?_)))))
   refine zzB (ki ⟨_,Heap.get?_push_size _ rfl,rfl⟩ qh ?_)
   have t:=Obj.data_mapFields z (·.setIfInBounds 0 Value.none)
   refine zzP (K _ _ (Heap.get?_push_of_some _ (Heap.get?_push_of_some _ (Heap.get?_update_self _ p (Obj.isFreed_of_fields t)))) ?_ (((Heap.SameBut.update ..).extBut.push _).push _))
   simp [aY,t,((Obj.cls_mapFields o (·.setIfInBounds 0 Value.none)).trans hc)]:∀{m:pj}{w:kb}{A:fq}{E:bt->bo->Prop}{s:bo}{it l:d3}{i:Nat}{d}{Q:bc bt->bo->Prop}(R:A.handled=ba)(c:s.heap.IsListIter it l i)(f:s.heap.IsList l d)(T:d[i]? =ba)(K:∀ h' u,h'.get? it=am u->¬aY u->Heap.ExtBut it s.heap h'->Q ba {s with heap:=h'}),bw (ir m w) A (nr (.ref it)) Q E s) hr.1 c P (Array.getElem?_eq_none (by exact rwL W.sz (getElem?_eq_none_iff.mp g))) (λh' u U F D=>?_)
  have N:Imm s.heap h':=λb x e i=>by
   by_cases q:b=l.a
   ·subst q;refine cyS (X▸e) λzq=>?_;subst zq;exact bv i (mG Y L)
   ·exact D b x q e
  refine .done g (S.upd f I (by intro _ h;cases h) (λb o e hb=>D b o (λq=>hb (.inl q)) e) N.im rfl rfl ⟨g1,O,u,U,F⟩ (by intro _ h;cases h))
   λW=>⟨cc _,λl f=>by simp at f,λb x e p _=>D b x (λq=>p (q▸⟨l,eg f,.inl rfl⟩)) e,N.im,λb x e=>?_⟩
  by_cases q:b=l.a
  ·exact rwL q ⟨u,U⟩
  ·exact⟨x,D b x q e⟩
structure GSh where
 fd:uw
 fa:d3
 pre:aq jg
 target:Expr
 iter:Expr
 cond:Expr
 ye:Expr
 cond2:Expr
 ye2:Expr
 s1:jg
 s3:jg
 s2:aq jg
 p1:Pos
 p2:Pos
 p3:Pos
 p4:Pos
 p5:Pos
 p6:Pos
 p7:Pos
namespace GSh
def yst(G:GSh):jg:=.Expr (.Yield (am G.ye) G.p1) G.p2
def yst2(G:GSh):jg:=.Expr (.Yield (am G.ye2) G.p3) G.p4
def lb(G:GSh):aq jg:=[.If G.cond (G.s1::G.yst::G.s2) [] G.p5,G.s3]
def if2(G:GSh):jg:=.If G.cond2 [G.yst2] [] G.p6
def tail(G:GSh):aq jg:=[.For G.target G.iter G.lb [] G.p7,G.if2]
def body(G:GSh):aq jg:=G.pre++G.tail
def envL(G:GSh)(L:d3):Env:=kq G.fd L G.fa
def Kf:wc->Sem PySem.Fin:=λf=>.pure (.done (.ret (match f with | .ret v=>v |_=>.none)))
def Hf(env:Env):bt->Sem PySem.Fin:=λe=>(leaving env e).wrap (λq=>.raise e) .raise id id
def Ka(G:GSh)(env:Env):wc->Sem PySem.Fin:=λf=>match f with | .next=>(pu [G.if2] env).wrap Kf (Hf env) id id |f=>Kf f
def fs1(G:GSh)(env:Env)(p:Pos):aq Frame:=[.ret (λr=>((match r with | .ok f=>(.pure f:Sem wc) | .error e=>.raise e).onRaise fun(x:bt)=>do
    if (<-wz x 1)==Value.none then uy "frame.own-activation:exception-without-traceback"
    setFlight x env.frame).wrap (G.Ka env) (Hf env) id id) ba false [] (.func G.body env) p []]
def loopC(G:GSh)(env:Env)(x:bt):Code:=.forLoop G.target x G.lb [] env
def Kt(G:GSh)(env:Env)(x:bt):wc->Sem PySem.Fin:=λf=>match f with
 | .next | .cont=>.pure (.again (G.loopC env x))
 | .brk=>.pure (.done .next)
 | .ret v=>.pure (.done (.ret v))
def Ht(env:Env):bt->Sem PySem.Fin:=λe=>(do noteFrame e env;uk e:Sem uq).wrap (λq=>.raise e) .raise id id
def K1(G:GSh)(env:Env)(x:bt):wc->Sem PySem.Fin:=λf=>match f with | .next=>(pu [G.s3] env).wrap (G.Kt env x) (Ht env) id id |f=>G.Kt env x f
def T1(G:GSh)(env:Env)(x:bt):Sem PySem.Fin:=(pu G.s2 env).wrap (G.K1 env x) (Ht env) id id
end GSh
theorem d8{f:α->Sem β}{K:β->Sem PySem.Fin}{H:bt->Sem PySem.Fin}(h:bw M (A.over c fs) m (λa s'=>Sg M A c ((f a).wrap K H gd lv) fs Φ s') (λx s'=>Sg M A c (H x) fs Φ s') s):Sg M A c ((m >>=f).wrap K H gd lv) fs Φ s:=by
 rw[Sem.bind_eq_wrap',Sem.wrap_wrap]
 exact iI h
inductive l8 where
 |yl (it:Nat) (lo:Lo) (v:V)
 |yr (lo:Lo) (v:V)
 |done
structure GFn where
 pre:SF
 it:EF
 tgt:AF
 fc:TF
 f1:SF
 fy:EF
 f2:SF
 f3:SF
 fc2:TF
 fy2:EF
namespace GFn
def tail(g:GFn)(lo:Lo)(H:MH)(Q:l8->MH->Prop):Prop:=g.fc2 lo H λb H2=>bif b then g.fy2 lo H2 λv H3=>Q (.yr lo v) H3 else Q .done H2
def nextK(k:Lo->MH->Prop):SK:=λfl lo H=>match fl with | .next=>k lo H |_=>f7
section
variable(g:GFn)
def loopN:Nat->Nat->Lo->MH->(l8->MH->Prop)->Prop
 |0,_,_,_,_=>f7
 |n+1,it,lo,H,Q=>Lf (H[it]?.bind MO.iv) λp=>Lf (lst H (.ref p.1)) λvs=>match vs[p.2]? with
  |some v=>g.tgt v lo (H.set it (.itr (am (p.1,p.2+1)))) λlo1 H1=>g.fc lo1 H1 λb H2=>
    bif b then g.f1 lo1 H2 (nextK λlo2 H3=>g.fy lo2 H3 λv H4=>Q (.yl it lo2 v) H4)
    else g.f3 lo1 H2 (nextK λlo2 H3=>loopN n it lo2 H3 Q)
  |none=>g.tail lo (H.set it (.itr ba)) Q
end
section
variable(g:GFn)
def loop(it:Nat)(lo:Lo)(H:MH)(Q:l8->MH->Prop):Prop:=∃ n,g.loopN n it lo H Q
end
def start(g:GFn)(lo:Lo)(H:MH)(Q:l8->MH->Prop):Prop:=g.pre lo H (nextK λlo1 H1=>g.it lo1 H1 λa H2=>Lf a.rf λci=>(∃ vs,lst H2 (.ref ci)=am vs)/\g.loop H2.length lo1 (H2++[.itr (am (ci,0))]) Q)
def more(g:GFn)(it:Nat)(lo:Lo)(H:MH)(Q:l8->MH->Prop):Prop:=g.f2 lo H (nextK λlo1 H1=>g.f3 lo1 H1 (nextK λlo2 H2=>g.loop it lo2 H2 Q))
end GFn
structure GV(C:Cx)(r:Nat)(G:GSh)(g:GFn)(env:Env):Prop where
 pre:SVs C r env G.pre g.pre
 it:EV C r env G.iter g.it
 tgt:AV C r env G.target g.tgt
 fc:TV C r env G.cond g.fc
 f1:SV C r env G.s1 g.f1
 fy:EV C r env G.ye g.fy
 f2:SVs C r env G.s2 g.f2
 f3:SV C r env G.s3 g.f3
 fc2:TV C r env G.cond2 g.fc2
 fy2:EV C r env G.ye2 g.fy2
 hs:∀ x,ip G.iter env x=pure x
 co:env.scope.isCoroutine=false
 ia:qW env=false
inductive GΦ(C:Cx)(G:GSh)(env:Env)(ρ0:aq Lc)(s0:bo)(Q:l8->MH->Prop):End->bo->Prop
 |yl {ρ1 H1 it lo v li u l k p p' s'} (S:Sim C H1 ρ1 s') (N:Nx ρ0 (Wr env) s0 ρ1 s') (hk:k (.send .none)=G.T1 env (.ref li.a)) (hli:ρ1[it]? =am li) (r:VR ρ1 s'.heap u v) (F:Fm C env ρ1 s' lo) (q:Q (.yl it lo v) H1):
   GΦ C G env ρ0 s0 Q (.susp u false l k (G.loopC env (.ref li.a)) p (G.fs1 env p')) s'
 |yr {ρ1 H1 lo v u l k p s'} (S:Sim C H1 ρ1 s') (N:Nx ρ0 (Wr env) s0 ρ1 s') (hk:k (.send .none)=GSh.Kf .next) (r:VR ρ1 s'.heap u v) (F:Fm C env ρ1 s' lo) (q:Q (.yr lo v) H1):GΦ C G env ρ0 s0 Q (.susp u false l k (.func G.body env) p []) s'
 |done {ρ1 H1 s'} (S:Sim C H1 ρ1 s') (N:Nx ρ0 (Wr env) s0 ρ1 s') (o:∃ o,s'.heap.get? env.locals=am o/\¬aY o) (q:Q .done H1):GΦ C G env ρ0 s0 Q (.ret (.ok (.ret .none))) s'
theorem Room.overF{b:aq jg}(a:Room (r+1) A):Room r (A.over (.func b e) []):=by
 refine xAA a λh1 c d=>⟨h1,(rwL (rfl:(Code.func b e).weight=1) (A34 c):A.depth+0+(Code.func b e).weight+10*r<=700),?_⟩
 ·exact(rwL (rfl:(Code.func b e).cUnits=3) (A35 d):A.units+0+(Code.func b e).cUnits+40*r<=8000)
theorem Room.overL{G:GSh}(b:Room (r+1) A):Room r (A.over (G.loopC e x) (G.fs1 e p)):=by
 refine xAA b λh1 a c=>⟨h1,(zzM1 0x155f3da4af80f40f41f40a00000015f3d07da402bea00007 [A.depth,r] ⋯ a:A.depth+(1+0)+0+10*r<=700),?_⟩
 ·exact(zzM1 0x147ea0f69068f80f40f43f40a00000007ea0f41f69001a3ea00007 [A.units,r] ⋯ c:A.units+(3+0)+0+40*r<=8000)
theorem Fm.locals(F:Fm C env ρ s lo):∃ o,s.heap.get? env.locals=am o/\¬aY o:=by
 refine xEA F.ns λm a q=>?_;obtain⟨o,d,c,g,b,_⟩:=a
 exact⟨o,g,by delta aY;exact rwL b id⟩
theorem aC7{st:jg}{a:aq jg}{K:wc->Sem PySem.Fin}(V:SV C r env st f)(m:Room r (A.over c fs))(S:Sim C H ρ s)(F:Fm C env ρ s lo)(e:f lo H (GFn.nextK k))(h:∀ {s1 b H1 d},Sim C H1 b s1->Nx ρ (Wr env) s b s1->Fm C env b s1 d->k d H1->Sg C.M A c ((pu a env).wrap K g id id) fs Φ s1):Sg C.M A c ((pu (st::a) env).wrap K g id id) fs Φ s:=cY (iI (wmN (V m S F e) λfw s1 p=>by
  obtain⟨n,i,l,j,q⟩:=p
  cases j with
  |next=>exact h n i l q
  |brk=>exact q.elim
  |cont=>exact q.elim
  |ret _=>exact q.elim))
theorem aC6{st:aq jg}{K:wc->Sem PySem.Fin}(V:SVs C r env st f)(l:Room r (A.over c fs))(S:Sim C H ρ s)(F:Fm C env ρ s lo)(e:f lo H (GFn.nextK k))(h:∀ {s1 a H1 b},Sim C H1 a s1->Nx ρ (Wr env) s a s1->Fm C env a s1 b->k b H1->Sg C.M A c (K .next) fs Φ s1):Sg C.M A c ((pu st env).wrap K d id id) fs Φ s:=iI (wmN (V l S F e) λfw s1 p=>by
  obtain⟨m,g,j,i,q⟩:=p
  cases i with
  |next=>exact h m g j q
  |brk=>exact q.elim
  |cont=>exact q.elim
  |ret _=>exact q.elim)
theorem qB(V:GV C r G g env):∀ (n:Nat){A:fq}{j s:bo}{ρ0 ρ:aq Lc}{H:MH}{lo:Lo}{Q:l8->MH->Prop},Room (r+1) A->Nx ρ0 (Wr env) j ρ s->Sim C H ρ s->Fm C env ρ s lo->ρ[it]? =am i-> g.loopN n it lo H Q->Sg C.M A (G.loopC env (.ref i.a)) (C.M.den (G.loopC env (.ref i.a))) (G.fs1 env p) (GΦ C G env ρ0 j Q) s:=λn=>by
 induction n with
 |zero=>
  intro _ _ _ _ _ _ _ _ _ _ _ _ _ e
  exact e.elim
 |succ n X=>
  intro A j s ρ0 ρ H lo Q c N S F h e
  show Sg C.M A _ ((forTurn G.target (.ref i.a) G.lb [] env).onRaise (λx=>do noteFrame x env;uk x)) _ _ s
  rw[Sem.onRaise_eq_wrap]
  have T:(λe=>(do noteFrame e env;uk e:Sem uq).bind λ_=>(.raise e:Sem PySem.Fin))=GSh.Ht env:=by
   funext e
   exact Sem.bind_eq_wrap _ _
  rw[T]
  delta forTurn
  refine d8 (f5 (e.elim λck O e=>e.elim λvs U e=>d8 (lu (wmN (aE0 c.overL S h (iv_mo O) U) λo s1 Y=>?_))))
  cases Y with
  |item o m d R=>
   rw[o]at e
   obtain⟨_,_,lc,_,oi,K,D,_⟩:=m.objs it _ i (by rw[fp (List.getElem?_eq_some_iff.mp (iv_mo O)).1]) h
   show Sg C.M A _ ((ui G.target (.ref i.a) _ >>=λ_=>(vm G.target env _ >>=λ_=>(pu G.lb env >>=λf=>match f with
    | .next | .cont=>again (.forLoop G.target (.ref i.a) G.lb [] env)
    | .brk=>pure (.done .next)
    | .ret v=>pure (.done (.ret v))))).wrap .pure (GSh.Ht env) id id) _ _ s1
   refine d8 (jZ K D (by decide) (d8 (eV.run (α:=uq) (V.tgt c.overL m (F.nx (d _)) R e) λ{_ s2 _ _ _} S2 w I e=>?_)))
   rw[Sem.bind_eq_wrap',Sem.wrap_wrap]
   refine(b3 (λt=>Sg C.M A (G.loopC env (.ref i.a)) t (G.fs1 env p) (GΦ C G env ρ0 j Q) s2) (Sem.wrap_congr (K':=G.Kt env (.ref i.a)) (H':=GSh.Ht env) (pu G.lb env) _ _ (λf=>by cases f<;>rfl) (λ_=>rfl))).mpr ?_
   have y:=(N.trans (d _)).trans w
   refine cY (sg_If (TV.run V.fc c.overL S2 I e λ{b s3 _ _} L u e=>?_))
   cases b with
   |true=>
    rw[ca rfl]
    exact aC7 V.f1 c.overL L (I.nx u) e λS4 z B e=>cY (j8 rfl rfl (EV.run V.fy c.overL S4 B e λS5 J P q l k Z E=>
     .yl S5 (((y.trans u.wr).trans z).trans J.wr) E (aR J.pre (aR z.pre (aR u.pre (aR w.pre h)))) P (B.nx J) q) V.co V.ia)
   |false=>
    exact rwL (bz (by decide)) (aC7 V.f3 c.overL L (I.nx u) e λS4 z B e=>pK rfl (X c ((y.trans u.wr).trans z) S4 B (aR z.pre (aR u.pre (aR w.pre h))) e))
  |done o m d=>
   rw[o]at e
   exact pK rfl (aHs (.ok .next) ((by
    exact λ{C r env G g} V {A j s ρ0 ρ H lo Q} c N S F e=>cY (sg_If (TV.run V.fc2 c.overF S F e λ{b s1 _ _} m d e=>by
       cases b with
       |true=>
        exact rwL (ca rfl) (cY (j8 rfl rfl (EV.run V.fy2 c.overF m (F.nx d) e λS2 w W q l k p E=>.yr S2 ((N.trans d.wr).trans w.wr) E W ((F.nx d).nx w) q) V.co V.ia))
       |false=>
        exact rwL (bz (by decide)) (aC9 (.ok (.ret .none)) (.done m (N.trans d.wr) (F.nx d).locals e)))):∀{C:Cx}{r:Nat}{env:Env}{G:GSh}{g:GFn}(V:GV C r G g env){A:fq}{j s:bo}{ρ0 ρ:aq Lc}{H:MH}{lo:Lo}{Q:l8->MH->Prop}(c:Room (r+1) A)(N:Nx ρ0 (Wr env) j ρ s)(S:Sim C H ρ s)(F:Fm C env ρ s lo)(e:g.tail lo H Q),Sg C.M A (.func G.body env) ((pu [G.if2] env).wrap GSh.Kf (GSh.Hf env) id id) [] (GΦ C G env ρ0 j Q) s) V c (N.trans (d _)) m (F.nx (d _)) e))
theorem aFd(V:GV C r G g env){b:Lc}(d:Room (r+1) A)(N:Nx ρ0 (Wr env) i ρ s)(S:Sim C H ρ s)(F:Fm C env ρ s lo)(c:ρ[it]? =am b)(e:g.more it lo H Q):Sg C.M A (G.loopC env (.ref b.a)) (G.T1 env (.ref b.a)) (G.fs1 env p) (GΦ C G env ρ0 i Q) s:=aC6 V.f2 d.overL S F e λS1 f k e=>aC7 V.f3 d.overL S1 k e λS2 h j e=>by
  exact xE e λn e=>pK rfl (qB V n d ((N.trans f).trans h) S2 j (aR h.pre (aR f.pre c)) e)
theorem aBz(V:GV C r G g env)(c:Room (r+1) A)(N:Nx ρ0 (Wr env) l ρ s)(S:Sim C H ρ s)(F:Fm C env ρ s lo)(e:g.start lo H Q):Sg C.M A (.func G.body env) (C.M.den (.func G.body env)) [] (GΦ C G env ρ0 l Q) s:=by
 refine aC8 ?_
 rw[Sem.onRaise_eq_wrap,Sem.bind_eq_wrap',Sem.wrap_wrap]
 rw[Sem.wrap_congr (pu G.body env) _ _ (K':=GSh.Kf) (H':=GSh.Hf env) (λf=>by cases f<;>rfl) (λe=>by rw[Sem.bind_eq_wrap,Sem.wrap_wrap];rfl)]
 show Sg C.M A _ ((pu (G.pre++G.tail) env).wrap GSh.Kf (GSh.Hf env) id id) [] _ s
 rw[(by
  exact λ{env K H}=>λn=>by
    induction n with
    |nil=>
     exact λb=>rfl
    |cons st a y=>
     intro b
     rw[List.cons_append,uj,uj]
     refine Sem.wrap_congr _ _ _ (λf=>?_) (λE=>rfl)
     cases f with
     |next=>exact y b
     |_=>rfl:∀{env:Env}{K:wc->Sem PySem.Fin}{H:bt->Sem PySem.Fin},∀ (a b:aq jg),(pu (a++b) env).wrap K H id id=(pu a env).wrap (λf=>match f with | .next=>(pu b env).wrap K H id id |f=>K f) H id id)]
 refine aC6 V.pre c.overF S F e λ{s1 E E E} p w j e=>cY ?_
 rw[exec_For]
 refine d8 (f5 (d8 (EV.run V.it c.overF p j e λ{x s2 d v2 z} S2 i v e=>e.elim λci t e=>(xAE e λz96 n e=>?_))));obtain⟨vs,q⟩:=z96
 refine c6 (v.toRef t) λlc E o k=>rwL o (bM (b6 S2 (.ref k) q) λad B u m D=>?_)
 cases u
 refine d8 (jy (V.hs _) (d8 (f5 (d8 (bx (qb m ?_))))))
 have h:Nx d noW s2 _ _:=.alloc {cls:=.type "list_iterator",data:=.fields #[.ref lc.a,.int 0 0]}
 exact aHt λp=>qB V n c (((N.trans w).trans i.wr).trans h.wr) (S2.alloc {cls:=.type "list_iterator",data:=.fields #[.ref lc.a,.int 0 0]} (.itr (am (ci,0))) ⟨rfl,rfl,lc,aR (gy _ _) k,_,Heap.get?_push_size _ rfl,rfl,rfl⟩) ((j.nx i).nx h) S2.last e
def gX(G:GSh)(ρ:aq Lc)(s:bo)(L:d3)(lo:Lo):Prop:=∃ m,s.heap.Ns L m/\∀ x,(G.envL L).kindOf x=am .local->OV ρ s.heap (m x) (lo x)
def fP(G:GSh)(ρ:aq Lc)(s:bo)(l:Lc)(gn:Gn):Prop:=∃ g nm qn,l.g=am g/\s.heap.get? l.a=am {cls:=.type "generator",data:=.fields #[.int (g:Nat) 0,nm,qn]}/\(match gn with
  | .fresh lo=>l.d≠l.a/\gX G ρ s l.d lo/\s.gens[g]? =am (.fresh (.func G.body (G.envL l.d)))
  | .loop it lo=>l.d≠l.a/\gX G ρ s l.d lo/\∃ li k l' p p',ρ[it]? =am li/\k (.send .none)=G.T1 (G.envL l.d) (.ref li.a)/\s.gens[g]? =am (.suspended k l' (G.loopC (G.envL l.d) (.ref li.a)) p (G.fs1 (G.envL l.d) p') false)
  | .last lo=>l.d≠l.a/\gX G ρ s l.d lo/\∃ k l' p,k (.send .none)=GSh.Kf .next/\s.gens[g]? =am (.suspended k l' (.func G.body (G.envL l.d)) p [] false)
  | .run=>l.d=l.a/\s.gens[g]? =am .running
  | .fin=>l.d≠l.a/\(∃ o,s.heap.get? l.d=am o/\¬aY o)/\s.gens[g]? =am .finished)
theorem gX.mono{a:aq Lc}(h:gX G ρ s L lo)(e:ρ<+:a)(i:Im ρ a s.heap s'.heap)(h2:∀ o,s.heap.get? L=am o->s'.heap.get? L=am o):gX G a s' L lo:=by
 refine xEA h λm b c=>?_;obtain⟨o,g,f,d,q⟩:=b
 exact⟨m,⟨o,g,f,h2 _ d,q⟩,λx j=>(c x j).mono e i⟩
theorem fP.mono(e:ρ<+:f)(i:Im ρ f s.heap s'.heap)(h1:∀ o,s.heap.get? l.a=am o->s'.heap.get? l.a=am o)(h2:∀ o,s.heap.get? l.d=am o->s'.heap.get? l.d=am o)(m:∀ k x,l.g=am k->s.gens[k]? =am x->s'.gens[k]? =am x)(h:fP G ρ s l gn):fP G f s' l gn:=by
 refine iE h λg nm q j t c=>⟨g,nm,q,j,h1 _ t,?_⟩
 cases gn with
 |fresh lo=>exact⟨c.1,c.2.1.mono e i h2,m _ _ j c.2.2⟩
 |loop it lo=>exact iF c λa b u k l' p r x y z=>⟨a,b.mono e i h2,u,k,l',p,r,aR e x,y,m _ _ j z⟩
 |last lo=>exact sA c λa b k l' p y z=>⟨a,b.mono e i h2,k,l',p,y,m _ _ j z⟩
 |run=>exact⟨c.1,m _ _ j c.2⟩
 |fin=>refine xAA c λa n z=>xEA n λo x y=>?_;exact⟨a,⟨o,h2 _ x,y⟩,m _ _ j z⟩
theorem fP.here(h:fP G ρ s l gn):∃ o c,s.heap.get? l.a=am o/\s.heap.get? l.d=am c/\¬aY o/\¬aY c:=by
 refine iE h λg nm k q f b=>?_
 have e: ¬aY ({cls:=.type "generator",data:=.fields #[.int (g:Nat) 0,nm,k]}:Obj):=by simp [aY]
 have j:∀ lo,gX G ρ s l.d lo->∃ o c,s.heap.get? l.a=am o/\s.heap.get? l.d=am c/\¬aY o/\¬aY c:=by
  rintro lo ⟨m,⟨o,t,r,n,p,_⟩,_⟩
  exact⟨_,o,f,n,e,by simp [aY,p]⟩
 cases gn with
 |fresh lo=>exact j lo b.2.1
 |loop it lo=>exact j lo b.2.1
 |last lo=>exact j lo b.2.1
 |run=>exact rwL b.1 ⟨_,_,f,f,e,e⟩
 |fin=>refine xAA b λu i u=>xEA i λo x y=>?_;exact⟨_,o,f,x,e,y⟩
def mkCx(prog:pj)(w:kb)(base:bo)(lim:base.heap.NoLimit)(G:GSh):Cx:=⟨prog,w,base,lim,fP G,fP.mono,fP.here⟩
structure GCx(C:Cx)(G:GSh):Prop where
 gr:∀ ρ s l gn,C.GR ρ s l gn=fP G ρ s l gn
 loc:∀ L x,(G.envL L).kindOf x≠am .cell/\(G.envL L).kindOf x≠am .free
 cells:∀ L,(G.envL L).cells= []
 kind:G.fd.scope.kind= .function
 gl:G.fd.globals=gw
 bi:G.fd.builtins=kl
def jW(ρ ρ':aq Lc):Prop:=(∀ (n:Nat) (l:Lc),ρ[n]? =am l->∃ l',ρ'[n]? =am l'/\l'.a=l.a)/\∀ b,mS ρ' b->mS ρ b
theorem Im.sameA(i:Im f c h h')(a:∀ b,mS f b->mS ρ0 b)(b:∀ b,mS d b->mS c b):Im ρ0 d h h':=λx o e q m=>let j:=i x o e q λz w=>m z (a x w);⟨j.1,λz w=>j.2 z (b x w)⟩
theorem VR.sameA(e:jW ρ c)(r:VR ρ h u v):VR c h u v:=by
 refine VR.rec (motive_2:=λus vs q=>VRs c h us vs) .none .bool .int .str ?_ ?_ ?_ ?_ ?_ ?_ .raw .nil ?_ r
 ·intro a k n vs g m _ j;exact .tup g (λw=>m (e.2 _ w)) j
 ·intro a n x y z t u v o g;exact .mat g
 ·intro n l g;exact xEA (e.1 n l g) λl' d f=>rwR f (.ref d)
 ·intro a n l g i;exact xEA (e.1 n l g) λl' d f=>.dget d (rwL f i)
 ·intro a n l g i;exact xEA (e.1 n l g) λl' d f=>.scon d (rwL f i)
 ·intro a x y z t u v g;exact .rng g
 ·intro u us v vs _ _ a b;exact .cons a b
theorem VRs.sameA(e:jW ρ c)(r:VRs ρ h us vs):VRs c h us vs:=r.ind .nil λa q b=>.cons (a.sameA e) b
theorem OV.sameA{a:aq Lc}(e:jW ρ a):∀ {u:bc bt}{v:bc V},OV ρ h u v->OV a h u v
 |none,ba,_=>trivial
 |some _,am _,x=>VR.sameA e x
 |none,am _,x=>False.elim x
 |some _,ba,x=>False.elim x
theorem OR.sameA(E:GCx C G)(e:jW ρ h)(r:OR C ρ s l m):OR C h s l m:=by
 cases m with
 |list vs=>exact kF r λa g u n x y=>⟨a,g,u,n,x,y.sameA e⟩
 |ro vs=>exact q9 r λa g u x y=>⟨a,g,u,x,y.sameA e⟩
 |dict n f=>exact wL r λa g t q x y=>⟨a,g,t,q,x,λk=>(y k).sameA e⟩
 |eset=>exact r
 |inst fs=>exact pC r λg J o m a b c d=>⟨g,J,o,m,a,b,c,λk=>(d k).sameA e⟩
 |gen v=>
  have D:C.GR ρ s l v:=r
  rw[E.gr]at D
  show C.GR h s l v
  rw[E.gr]
  refine iE D λg nm H F K i=>⟨g,nm,H,F,K,?_⟩
  have B:∀ {lo},gX G ρ s l.d lo->gX G h s l.d lo:=λw=>xEA w λm N i=>⟨m,N,λx L=>(i x L).sameA e⟩
  cases v with
  |fresh lo=>exact⟨i.1,B i.2.1,i.2.2⟩
  |loop it lo=>refine iF i λa b M k l' p I x y z=>xEA (e.1 _ _ x) λli' j A=>?_;rw[<-A]at y z;exact⟨a,B b,li',k,l',p,I,j,y,z⟩
  |last lo=>exact xAA i λa b c=>⟨a,B b,c⟩
  |run=>exact i
  |fin=>exact i
 |itr p=>cases p with
  |none=>exact r
  |some p=>exact q9 r λa g M x y=>xEA (e.1 _ _ x) λli' j A=>⟨a,g,li',j,(rwL A y)⟩
 |zt=>exact r
theorem gS{s:bo}(e:s.gens[g]? =am y):(s.setGen g x).gens[g]? =am x:=by
 have:g<s.gens.size:=by
  refine Or.elim (qy g s.gens.size) (λq=>q) λq=>?_
  ·cases ((Array.getElem?_eq_none q)▸e)
 show(s.gens.setIfInBounds g x)[g]? =am x
 simp [Array.getElem?_setIfInBounds,this]
theorem jX(c:ρ[gi]? =am l)(d:l'.a=l.a):jW ρ (ρ.set gi l'):=by
 refine⟨?_,λb z=>xEA z λx b e=>(List.mem_or_eq_of_mem_set b).elim (λq=>⟨x,q,e⟩) λq=>⟨l,eg c,by exact rwR d (rwR q e)⟩⟩
 intro n x b
 by_cases q:n=gi
 ·subst q
  rw[c]at b;refine cxS b ?_
  exact⟨l',by rw[fp ((List.getElem?_eq_some_iff.mp c).1)],d⟩
 ·exact⟨x,by exact rwL (iy (Ne.symm q)) b,rfl⟩
theorem Sim.swapG(U:GCx C G)(S:Sim C H ρ s)(u:ρ[gi]? =am l)(W:H[gi]? =am (.gen gn))(N:l'.a=l.a)(Q:l'.g=l.g)(P:l.g=am g)(M:gs.bare=be)(T:l'.d=l.a\/l'.d=l.d\/(¬Own ρ l'.d/\C.base.heap.get? l'.d=ba))(E:fP G (ρ.set gi l') (s.setGen g gs) l' gn'):Sim C (H.set gi (.gen gn')) (ρ.set gi l') (s.setGen g gs):=by
 have D:gi<H.length:=by exact rwR S.len ((List.getElem?_eq_some_iff.mp u).1)
 have other:∀ {i:Nat}{x:Lc},(ρ.set gi l')[i]? =am x->(i=gi/\x=l')\/(i≠gi/\ρ[i]? =am x):=by
  intro i x h
  by_cases q:i=gi
  ·subst q;rw[fp ((List.getElem?_eq_some_iff.mp u).1)]at h;exact cxS h (.inl ⟨rfl,rfl⟩)
  ·exact .inr ⟨q,(rwR (iy (Ne.symm q)) h)⟩
 have c:C.base.heap.get? l.a=ba/\C.base.heap.get? l.d=ba:=by
  rcases S.ro gi l u with ⟨vs,e⟩ |e
  ·cases (W▸e)
  ·exact e
 have v:∀ {i:Nat}{x:Lc},i≠gi->ρ[i]? =am x->∀ b,l'.has b->¬x.has b:=by
  intro i x q p b M t
  have A:=S.disj gi i l x u p (Ne.symm q)
  rcases M with rfl |rfl
  ·exact A _ (.inl rfl) (rwR N t)
  ·rcases T with e |e |⟨e,_⟩
   ·exact A _ (.inl rfl) (rwR e t)
   ·exact A _ (.inr rfl) (rwR e t)
   ·exact e ⟨x,eg p,t⟩
 refine⟨by simp [S.len],S.keep,λi m x L p=>?_,λi x p=>?_,λi j J I F K f b w B=>?_,λi j J I k F K f w B=>?_,S.os,(by
  intro s g x h p
  intro y V
  have O:y∈s.gens.setIfInBounds g x:=V
  obtain⟨i,F,rfl⟩:=Array.mem_iff_getElem.mp O
  rw[Array.getElem_setIfInBounds (by simpa using F)]
  split
  ·exact p
  ·exact h _ (Array.getElem_mem _):∀{s:bo}{g:Nat}{x:pH}(h:qu s.gens)(p:x.bare=be),qu (s.setGen g x).gens) S.bare M⟩
 ·rcases other p with ⟨rfl,rfl⟩ |⟨q,r⟩
  ·rw[fp D]at L;refine cxS L ?_
   show C.GR _ _ _ _
   rw[U.gr];exact E
  ·exact OR.sameA U (jX u N) ((S.objs i m x (rwR (iy (Ne.symm q)) L) r).mono (s:=s) (s':=s.setGen g gs) (cc _) (.refl _ _) (λY e=>e) (λY e=>e) (λk y X e=>(by
    exact rwL (Array.getElem?_setIfInBounds_ne (Ne.symm (λz=>S.disjG i gi x l k r u q X (by rw[P,z])))) e)))
 ·rcases other p with ⟨rfl,rfl⟩ |⟨q,r⟩
  ·right
   refine⟨by exact rwL N c.1,?_⟩
   rcases T with e |e |⟨_,e⟩
   ·exact rwL e c.1
   ·exact rwL e c.2
   ·exact e
  ·exact rwL (iy (Ne.symm q)) (S.ro i x r)
 ·rcases other F with ⟨rfl,rfl⟩ |⟨q,n⟩<;>rcases other K with ⟨rfl,rfl⟩ |⟨R,o⟩
  ·exact f rfl
  ·exact v R o b w B
  ·exact v q n b B w
  ·exact S.disj i j J I n o f b w B
 ·rcases other F with ⟨rfl,rfl⟩ |⟨q,n⟩<;>rcases other K with ⟨rfl,rfl⟩ |⟨R,o⟩
  ·exact f rfl
  ·exact S.disjG i j l I k u o f (Q▸w) B
  ·exact S.disjG i j J l k n u f w (Q▸B)
  ·exact S.disjG i j J I k n o f w B
def MO.gn:MO->bc Gn | .gen g=>am g |_=>ba
theorem aFc(e:m.bind MO.gn=am g):m=am (.gen g):=by
 refine xEA (bn.mp e) λm a b=>rwL a ?_
 cases m with
 |gen g=>refine cxS b ?_;rfl
 |_=>cases b
def GFn.finK(gi:Nat)(Q:bc V->MH->Prop):l8->MH->Prop:=λo H1=>H1[gi]? =am (.gen .run)/\match o with
 | .yl it lo v=>Q (am v) (H1.set gi (.gen (.loop it lo)))
 | .yr lo v=>Q (am v) (H1.set gi (.gen (.last lo)))
 | .done=>Q ba (H1.set gi (.gen .fin))
def GFn.nxG(g:GFn)(gi:Nat)(H:MH)(Q:bc V->MH->Prop):Gn->Prop
 | .fresh lo=>g.start lo (H.set gi (.gen .run)) (GFn.finK gi Q)
 | .loop it lo=>g.more it lo (H.set gi (.gen .run)) (GFn.finK gi Q)
 | .last lo=>Q ba (H.set gi (.gen .fin))
 | .fin=>Q ba H
 | .run=>f7
def GFn.nx(g:GFn)(gi:Nat)(H:MH)(Q:bc V->MH->Prop):Prop:=Lf (H[gi]?.bind MO.gn) λgn=>g.nxG gi H Q gn
theorem yY{R:α->bo->Prop}(f:A.handled=ba)(e:∀ x h',(∃ o,h'.get? x=am o/\o.cls= .type "StopIteration")->(∀ b o,s.heap.get? b=am o->h'.get? b=am o)->E (.ref x) {s with heap:=h'}):
  bw (ir prog w) A (newExc (.type "StopIteration") [] >>=λx=>(raiseNew x:Sem β) >>=c) R E s:=by
 refine zzB (zzB (fv (zzB (jy (a:=Value.none) (by first |rfl | (rfl)) (fv (zzB ?_) (by size_fits)))) (by size_fits)))
 delta raiseNew;exact zzB (s7 (rwL f (zzB (zzP (ux (e _ _ ⟨_,Heap.get?_push_size _ rfl,rfl⟩ (λb o d=>Heap.get?_push_of_some _ (Heap.get?_push_of_some _ d))))))))
theorem Sim.extS(S:Sim C H ρ s)(a:∀ b o,s.heap.get? b=am o->h'.get? b=am o):Sim C H ρ {s with heap:=h'}:=S.ext a
structure GAt(C:Cx)(G:GSh)(H:MH)(ρ:aq Lc)(s:bo)(gi gk:Nat)(l:Lc):Prop where
 S:Sim C H ρ s
 hl:ρ[gi]? =am l
 hH:∃ gn,H[gi]? =am (.gen gn)
 hg:l.g=am gk
 ho:∃ nm qn,s.heap.get? l.a=am {cls:=.type "generator",data:=.fields #[.int (gk:Nat) 0,nm,qn]}
 base:C.base.heap.get? l.a=ba/\C.base.heap.get? l.d=ba
 ne:l.d≠l.a
 hL:∃ oL,s.heap.get? l.d=am oL
noncomputable abbrev lrun(l:Lc):Lc:= {l with d:=l.a}
theorem GAt.run(m:GCx C G){b:Nat}(a:GAt C G H ρ s gi b l)(c:s.gens[b]? =am gs):Sim C (H.set gi (.gen .run)) (ρ.set gi (lrun l)) (s.setGen b .running)/\¬Own (ρ.set gi (lrun l)) l.d/\jW ρ (ρ.set gi (lrun l)):=by
 refine xEE a.ho λnm h j=>xE a.hH λgn g=>⟨a.S.swapG m (l':=lrun l) a.hl g rfl rfl a.hg rfl (.inl rfl) ⟨b,nm,h,a.hg,j,rfl,gS c⟩,?_,jX a.hl rfl⟩
 rintro ⟨x,k,f⟩
 refine xE (kM k) λi e=>?_
 by_cases q:i=gi
 ·subst q
  refine cyS ((fp ((List.getElem?_eq_some_iff.mp a.hl).1))▸e) λzq=>?_;subst zq
  refine Or.elim f (λz=>?_) λz=>?_<;>exact a.ne z
 ·exact a.S.disj gi i l x a.hl (rwR (iy (Ne.symm q)) e) (Ne.symm q) _ (.inr rfl) f
theorem GAt.back(z:GCx C G)(a:GAt C G H ρ s gi g l)(p: ¬Own (ρ.set gi (lrun l)) l.d)(N:Nx (ρ.set gi (lrun l)) (Wr (G.envL l.d)) (s.setGen g .running) c s1)(I:Sim C H1 c s1)(u:H1[gi]? =am (.gen .run))(j:gs.bare=be)(r:∀ nm L,s1.heap.get? l.a=am {cls:=.type "generator",data:=.fields #[.int (g:Nat) 0,nm,L]}->jW c (c.set gi l)->(∃ y,s1.gens[g]? =am y)->fP G (c.set gi l) (s1.setGen g gs) l gn'):
  Sim C (H1.set gi (.gen gn')) (c.set gi l) (s1.setGen g gs)/\Nx ρ noW s (c.set gi l) (s1.setGen g gs)/\jW c (c.set gi l):=by
 have n:=(List.getElem?_eq_some_iff.mp a.hl).1
 have m:=aR N.pre (by rw[fp n])
 have w:jW c (c.set gi l):=jX m rfl
 have M:fP G c s1 (lrun l) .run:=by rw[<-z.gr];exact (I.objs gi _ _ u m)
 refine d5 M λgk' B A E f O v=>?_
 obtain rfl:gk'=g:=Option.some.inj (E.symm.trans a.hg)
 refine xE a.hL λoL D=>⟨I.swapG z m u rfl rfl a.hg j (.inr (.inr ⟨N.own D p,a.base.2⟩)) (r B A f w ⟨_,v⟩),xE N.pre λt F=>?_,w⟩
 have h:c.set gi l=ρ++t:=by
  rw[<-F,List.set_append_left _ _ (by simpa using n),sO]
  refine xE (List.getElem?_eq_some_iff.mp a.hl) λhh e=>?_
  rw[<-e,List.set_getElem_self]
 refine⟨⟨t,h.symm⟩,λx k=>?_,λb o e f O=>?_,N.imm.sameA (jX (l':=lrun l) a.hl rfl).2 w.2,λb o e=>N.al b o e⟩
 ·rw[h,nO]at k
  exact N.new x (rwR F (rwL nO k))
 ·refine N.kp b o e ?_ ?_
  ·rintro ⟨x,k,K⟩
   refine xE (kM k) λi J=>?_
   by_cases q:i=gi
   ·subst q
    refine cyS ((fp n)▸J) λzq=>?_;subst zq
    exact f ⟨l,eg a.hl,K.elim .inl .inl⟩
   ·exact f ⟨x,eg (rwR (iy (Ne.symm q)) J),K⟩
  ·rintro (rfl |⟨x,k⟩)
   ·exact f ⟨l,eg a.hl,.inr rfl⟩
   ·rw[z.cells]at k;cases k
inductive nM(C:Cx)(gi:Nat)(ρ:aq Lc)(s:bo)(Q:bc V->MH->Prop):bc bt->bo->Prop
 |item {u v ρ' s' H'} (S:Sim C H' ρ' s') (N:Nx ρ noW s ρ' s') (r:VR ρ' s'.heap u v) (hg:∃ gn,H'[gi]? =am (.gen gn)) (q:Q (am v) H'):nM C gi ρ s Q (am u) s'
 |done {ρ' s' H'} (S:Sim C H' ρ' s') (N:Nx ρ noW s ρ' s') (q:Q ba H'):nM C gi ρ s Q ba s'
theorem nM.ext(h:nM C gi ρ s Q ba s1)(a:∀ b o,s1.heap.get? b=am o->h'.get? b=am o):nM C gi ρ s Q ba {s1 with heap:=h'}:=by
 cases h with
 |done S N q=>exact .done (S.extS a) (N.trans (.ext a)) q
structure Wk(C:Cx)(A:fq)(P:bc bt->bo->Prop)(Q:PySem.Fin->bo->Prop)(E:bt->bo->Prop)(kk:GenResult->Sem PySem.Fin):Prop where
 y:∀ v,kk (.yielded v)=ret v
 r:∃ k':PUnit->Sem PySem.Fin,kk (.returned .none)=(newExc (.type "StopIteration") [] >>=λx=>(raiseNew x:Sem PUnit) >>=k')
 h1:∀ u s',P (am u) s'->Q (.done (.ret u)) s'
 h2:∀ x h' s1,P ba s1->(∃ o,h'.get? x=am o/\o.cls= .type "StopIteration")->(∀ b o,s1.heap.get? b=am o->h'.get? b=am o)->E (.ref x) {s1 with heap:=h'}
set_option tactic.hygienic true in
theorem GAt.main(K:GCx C G)(U:A.handled=ba)(a:GAt C G H ρ s gi e l)(b: ¬Own (ρ.set gi (lrun l)) l.d)(w:s.gens[e]? =am gs)(z:aG3 C.M A (GΦ C G (G.envL l.d) (ρ.set gi (lrun l)) (s.setGen e .running) (GFn.finK gi P)) (.send .none) (s.setGen e .running) gs)(W:Wk C A (nM C gi ρ s P) Q E j):bw C.M A (.resume e (.send .none) [] j) Q E s:=by
 have frs:∀ {f:aq Lc}{s1:bo}{lo:Lo}{N:pH},jW f (f.set gi l)->Fm C (G.envL l.d) f s1 lo->gX G (f.set gi l) (s1.setGen e N) l.d lo:=λsa F=>
  xEA F.ns (λm Z X=>⟨m,Z,λx J=>(X x J).sameA sa⟩)
 refine wM w z λe s1 v=>?_
 cases v with
 |yl i n o L I D q=>
  refine⟨rfl,?_⟩
  rename_i Y u l' k p S
  have B:=a.back K b (gn':=.loop _ _) n i q.1 rfl (λnm g c sa ⟨y,h⟩=>by
   exact xEA (sa.1 _ Y L) λli' T O=>⟨e,nm,g,a.hg,c,a.ne,frs sa D,li',k,l',p,S,T,by exact rwL O o,by exact rwL O (gS h)⟩)
  show bw C.M A (j (.yielded u)) Q E _
  rw[W.y]
  exact zzP (W.h1 u _ (.item B.1 B.2.1 (I.sameA B.2.2) ⟨_,fp (List.getElem?_eq_some_iff.mp q.1).1⟩ q.2))
 |yr i n o I D q=>
  refine⟨rfl,?_⟩
  rename_i u l' k p
  have B:=a.back K b (gn':=.last _) n i q.1 rfl (λnm g c sa ⟨y,h⟩=>⟨e,nm,g,a.hg,c,a.ne,frs sa D,k,l',p,o,gS h⟩)
  show bw C.M A (j (.yielded u)) Q E _
  rw[W.y]
  exact zzP (W.h1 u _ (.item B.1 B.2.1 (I.sameA B.2.2) ⟨_,fp (List.getElem?_eq_some_iff.mp q.1).1⟩ q.2))
 |done i n R q=>
  refine⟨rfl,?_⟩
  have B:=a.back K b (gn':=.fin) n i q.1 rfl (λnm g c sa ⟨y,h⟩=>⟨e,nm,g,a.hg,c,a.ne,R,gS h⟩)
  exact(xE W.r λk' t=>rwL t (yY U λx h' J o=>W.h2 x h' _ (.done B.1 B.2.1 q.2) J o):bw C.M A (j (.returned .none)) Q E (s1.setGen e .finished))
theorem vW{a:d3}(b:s.heap.IsGen a f)(g:s.gens[f]? =am gs)(h:bw C.M A.in1 (Builtin.Generator.genWake (.ref a) (.send .none)) (λfin s'=>∃ u,fin= .done (.ret u)/\Q (am u) s') (λe s'=>∃ x,e= .ref x/\(∃ o,s'.heap.get? x=am o/\o.cls= .type "StopIteration")/\Q ba s') s):bw C.M A (nr (.ref a)) Q NoE s:=by
 delta nr
 refine zzB (ly (e8 b.typeIs slot_gen_next
  (fu slot_gen_next b.typeIs entry_gen_next (f4 h (λfin s' h=>?_) λe s' h=>?_) (args_gen_next _))))
 ·obtain⟨u,rfl,h⟩:=h
  exact⟨u,rfl,zzP h⟩
 ·obtain⟨x,rfl,⟨o,d,c⟩,h⟩:=h
  exact zzB (ki ⟨o,d,c⟩ qh (zzP h))
theorem GAt.wake(o:GCx C G)(k:Room (r+2) A)(a:GAt C G H ρ s gi f l)(e: ¬Own (ρ.set gi (lrun l)) l.d)(b:s.gens[f]? =am gs)(c:aG3 C.M A.in1 (GΦ C G (G.envL l.d) (ρ.set gi (lrun l)) (s.setGen f .running) (GFn.finK gi j)) (.send .none) (s.setGen f .running) gs):bw C.M A (nr (.ref l.a)) (nM C gi ρ s j) NoE s:=by
 refine xEE a.ho λnm h i=>vW ⟨_,nm,h,i,rfl,rfl,rfl⟩ b (zzB (bx (wpAny_genNumber ⟨_,nm,h,i,rfl,rfl,rfl⟩ (zzB (wpAny_genState b ?_)))))
 cases gs with
 |running=>exact c.elim
 |finished=>exact c.elim
 |_=>
  exact zzB (wpAny_roomToWake (C.lim.keeps a.S.keep) k.lt (GAt.main o (show A.in1.handled=ba from k.1) a e b c ⟨λq=>rfl,⟨_,rfl⟩,λu s' g=>⟨u,rfl,g⟩,λx h' s1 g n m=>⟨x,rfl,n,g.ext m⟩⟩))
theorem Room.in1(a:Room (r+2) A):Room (r+1) A.in1:=⟨a.1,by exact(zzM1 0x155f3d07da402bea00015f3d0bda402bea00007 [A.depth,r] ⋯ a.2.1:A.depth+10*(r+1)<=700),by exact(zzM1 0x51fa83d07da40068f81f68000007ea0f42f69001a3ea00007 [A.units,r] ⋯ a.2.2:A.units+1+40*(r+1)<=8000)⟩
theorem aFf(n:GCx C G)(T:∀ L,GV C r G g (G.envL L))(B:Room (r+2) A)(S:Sim C H ρ s)(K:ρ[gi]? =am l)(e:g.nx gi H Q):bw C.M A (nr (.ref l.a)) (nM C gi ρ s Q) NoE s:=by
 refine e.elim λgn D e=>?_
 have D:=aFc D
 have o:fP G ρ s l gn:=by rw[<-n.gr];exact (S.objs gi _ l D K)
 refine iE o λgk nm J hg w t=>?_
 have q:C.base.heap.get? l.a=ba/\C.base.heap.get? l.d=ba:=by
  rcases S.ro gi l K with ⟨vs,e⟩ |e
  ·cases (D▸e)
  ·exact e
 have v:∀ {lo},l.d≠l.a->gX G ρ s l.d lo->GAt C G H ρ s gi gk l:=λhne i=>⟨S,K,⟨_,D⟩,hg,⟨nm,J,w⟩,q,hne,let ⟨m,⟨o,_,_,g,_⟩,_⟩:=i;⟨o,g⟩⟩
 have N:∀ {lo},jW ρ (ρ.set gi (lrun l))->gX G ρ s l.d lo->¬Own (ρ.set gi (lrun l)) l.d->Fm C (G.envL l.d) (ρ.set gi (lrun l)) (s.setGen gk .running) lo:=λsa i f=>
  (by
   intro C G n ρ s L lo h w U
   refine xEA h λm I t=>?_
   have F:∀ x c,(G.envL L).cells.lookup x=am c->f7:=λx c e=>by rw[n.cells]at e;cases e
   refine⟨n.kind,n.gl,n.bi,⟨m,I,t⟩,λx hx=>?_,λb u=>?_,λx c e=>(F x c e).elim,λx y c e=>(F x c e).elim,λb u=>?_⟩
   ·refine Or.elim hx (λhx=>(bv hx (n.loc L x).1)) λhx=>?_
    ·exact bv hx (n.loc L x).2
   ·rcases u with rfl |⟨x,e⟩
    ·exact⟨w,U⟩
    ·exact(F x b e).elim
   ·rcases u with rfl |⟨x,e⟩
    ·exact i6 I λo _ _ g _=>⟨o,g⟩
    ·exact(F x b e).elim:∀{C:Cx}{G:GSh}(n:GCx C G){ρ:aq Lc}{s:bo}{L:d3}{lo:Lo}(h:gX G ρ s L lo)(w: ¬Own ρ L)(U:C.base.heap.get? L=ba),Fm C (G.envL L) ρ s lo) n (xEA i λm I t=>⟨m,I,λx hx=>(t x hx).sameA sa⟩) f q.2
 cases gn with
 |fresh lo=>
  exact xAA t λhne i j=>xAA ((v hne i).run n j) λS1 f sa=>(v hne i).wake n B f j ⟨rfl,aBz (T l.d) B.in1 .refl S1 (N sa i f) e⟩
 |loop it lo=>
  refine iF t λhne i li k l' p p' O z j=>xAA ((v hne i).run n j) λS1 f sa=>xEA (sa.1 it li O) λli' Y Z=>(v hne i).wake n B f j (?_:Sg C.M A.in1 _ (k (.send .none)) _ _ _)
  exact rwL z (rwR Z (aFd (T l.d) B.in1 .refl S1 (N sa i f) Y e))
 |last lo=>
  refine sA t λhne i k l' p z j=>xAA ((v hne i).run n j) λS1 f sa=>(v hne i).wake n B f j (?_:Sg C.M A.in1 _ (k (.send .none)) _ _ _)
  exact rwL z (aC9 (.ok (.ret .none)) (.done S1 .refl (N sa i f).locals ⟨fp (List.getElem?_eq_some_iff.mp D).1,by rw[sO];exact e⟩))
 |run=>exact e.elim
 |fin=>
  refine xAA t λhne _ j=>vW ⟨_,nm,J,w,rfl,rfl,rfl⟩ j (zzB (bx (wpAny_genNumber ⟨_,nm,J,w,rfl,rfl,rfl⟩ (zzB (wpAny_genState j ?_)))))
  have W:∀ {P:GenResult->Sem PySem.Fin}{Q:PySem.Fin->bo->Prop}{E:bt->bo->Prop},bw C.M A.in1 (P .finished) Q E s->bw C.M A.in1 (.resume gk (.send .none) [] P) Q E s:=by
   intro P Q E h X p R
   rw[Sem.wp_resume]
   exact⟨.finished,s,by delta Wakes;exact rwL j ⟨rfl,rfl⟩,h X p R⟩
  exact W (rwL (by simp:(newExc (.type "StopIteration") [] >>=λx=>(raiseNew x:Sem PySem.Fin))=(newExc (.type "StopIteration") [] >>=λx=>(raiseNew x:Sem PySem.Fin) >>=λy=>(pure y:Sem PySem.Fin))) (yY B.1 λx h' hx z=>⟨x,rfl,hx,.done (S.extS z) (.ext z) e⟩))
def cGen(names:aq Str)(more:aq V):CF:=λvs H Q=>(vs++more).length=names.length/\Q (.ref H.length) (H++[.gen (.fresh (loB names (vs++more) lo0))])
theorem CV.gen(J:GCx C G)(D:Def C G.fa G.fd G.body){a:aq Str}(E:G.fd.scope.isGenerator=be)(hb:Binds C G.fd a v)(T:∀ ρ h,VRs ρ h v more)(Y:∀ x∈a,G.fd.scope.names.lookup x=am .local):CV C (r+1) (.ref G.fa) (cGen a more):=by
 refine xEA D.obj λo N j=>CC.cv N j ?_
 intro A s ρ H us vs Q hr S X e
 refine xA e λhlen q=>?_
 have t:=(X.append (T _ _)).length.trans hlen
 refine codeAny_call_generator hr.lt (S.keep _ _ N) j D.co E D.body (D.code.keeps S.keep) (hb s us S.keep t _ _ _ _ (rwL D.clo (sr D.kind (λx F=>.inl (Y x.1 (List.of_mem_zip F).1)) λenv he s1 I=>?_)))
 subst he
 refine xAAA (Fm.call D S (X.append (T _ _)) t (λx F=>.inl (Y x F)) I) λS1 N1 F1 ap=>⟨(C.lim.keeps S.keep).keeps I.toInCall.keep,xEE I.toInCall.same λh1 ao R=>xEA F1.ns λm L w=>?_⟩
 have M:s.heap.objs.size≠s1.heap.objs.size:=λq=>by
  refine i6 L λo _ _ g _=>?_
  have:=Heap.lt_size g
  rw[(rfl:(kq G.fd s.heap.objs.size G.fa).locals=s.heap.objs.size),q]at this
  exact Nat.lt_irrefl _ this
 have u:s1.gens=s.gens:=by rw[R]
 have d:∀ b o,s1.heap.get? b=am o->(s1.heap.push {cls:=.type "generator",data:=.fields #[.int s1.gens.size 0,.str G.fd.name s1.toks,.str G.fd.qualname (s1.toks+1)]}).get? b=am o:=λb o e=>Heap.get?_push_of_some _ e
 have P:s.heap.get? s1.heap.objs.size=ba:=by
  cases q:s.heap.get? s1.heap.objs.size with
  |none=>rfl
  |some o=>have:=I.toInCall.keep _ _ q;rw[aU]at this;cases this
 have W:=S.new (s':= {s1 with gens:=s1.gens.push (.fresh (.func G.body (kq G.fd s.heap.objs.size G.fa))),toks:=s1.toks+1+1,heap:=s1.heap.push {cls:=.type "generator",data:=.fields #[.int s1.gens.size 0,.str G.fd.name s1.toks,.str G.fd.qualname (s1.toks+1)]}})
  (l:=⟨s1.heap.objs.size,s.heap.objs.size,am s.gens.size⟩) (m:=.gen (.fresh (loB a (vs++more) lo0))) (λb o e=>d b o (I.toInCall.keep b o e)) (λk x e=>by
   have y:k<s.gens.size:=by
    refine Or.elim (qy k s.gens.size) (λq=>q) λq=>?_
    ·rw[Array.getElem?_eq_none q]at e;cases e
   rw[u,Array.getElem?_push,bz (md y)];exact e) (by rw[R]) (by rw[u];exact S.bare.push rfl) P (aU _)
  (λk e l' O e'=>by
   refine xE (kM O) λi hi=>?_
   refine cyS e λzq=>?_;subst zq;exact Nat.lt_irrefl _ ((by
    intro C G J H ρ s i k l S B c
    have y:i<H.length:=by exact rwR S.len ((List.getElem?_eq_some_iff.mp B).1)
    have o:=S.objs i H[i] l (getElem?_eq_getElem y) B
    revert o
    cases H[i] with
    |list vs=>rintro ⟨_,g,_⟩;rw[g]at c;cases c
    |ro vs=>rintro ⟨_,g,_⟩;rw[g]at c;cases c
    |dict n f=>rintro ⟨_,g,_⟩;rw[g]at c;cases c
    |eset=>rintro ⟨_,g,_⟩;rw[g]at c;cases c
    |inst fs=>rintro ⟨g,_⟩;rw[g]at c;cases c
    |itr p=>
     cases p with
     |none=>rintro ⟨_,g,_⟩;rw[g]at c;cases c
     |some p=>rintro ⟨_,g,_⟩;rw[g]at c;cases c
    |zt=>rintro ⟨_,g,_⟩;rw[g]at c;cases c
    |gen U=>
     intro o
     have Z:fP G ρ s l U:=by rw[<-J.gr];exact o
     refine iE Z λg nm qn hg N w=>?_
     obtain rfl:g=k:=by exact Option.some.inj (rwR hg c)
     have K:∀ {x},s.gens[g]? =am x->g<s.gens.size:=λ{x} e=>by
      refine Or.elim (qy g s.gens.size) (λq=>q) λq=>?_
      ·cases ((Array.getElem?_eq_none q)▸e)
     cases U with
     |fresh lo=>exact K w.2.2
     |loop it lo=>exact iF w λ_ _ _ _ _ _ _ _ _ z=>K z
     |last lo=>exact sA w λ_ _ _ _ _ _ z=>K z
     |run=>exact K w.2
     |fin=>exact K w.2.2:∀{C:Cx}{G:GSh}(J:GCx C G){H:MH}{ρ:aq Lc}{s:bo}{i k:Nat}{l:Lc}(S:Sim C H ρ s)(B:ρ[i]? =am l)(c:l.g=am k),k<s.gens.size) J S hi e'))
  (by
   show C.GR _ _ _ _
   rw[J.gr]
   exact⟨s.gens.size,.str G.fd.name s1.toks,.str G.fd.qualname (s1.toks+1),rfl,by exact rwR u (Heap.get?_push_size _ rfl),M,⟨m,L.keeps d,λx F=>(w x F).mono (gy _ _) ((dM d).gra (gy _ _) λl B=>(by cases dv.mp (nO▸B);exact aU _))⟩,by rw[u];simp;rfl⟩)
 exact⟨W.1,W.2 _,VR.ref S.last,q⟩
theorem lR(f:GCx C G){gi:Nat}(S:Sim C H ρ s)(b:ρ[gi]? =am l)(c:H[gi]? =am (.gen gn)):∃ k,s.heap.IsGen l.a k:=by
 have o:fP G ρ s l gn:=by rw[<-f.gr];exact (S.objs gi _ l c b)
 exact iE o λgk nm d g e h=>⟨gk,_,nm,d,e,rfl,rfl,rfl⟩
inductive GnM{C:Cx}(ρ:aq Lc)(s:bo)(gi:Nat):bt->(d3->Prop)->Prop
 |mk {l k} (h1:ρ[gi]? =am l) (h2:s.heap.IsGen l.a k):GnM ρ s gi (.ref l.a) (λq=>f7)
def jQ(hG:GCx C G)(r0:Nat)(VV:∀ L,GV C r0 G g (G.envL L)):ItK C where
 σ:=Nat
 nx:=λgi H Q=>g.nx gi H λo H'=>Q (o.map λv=>(v,gi)) H'
 rel:=λρ s gi x X=>∃ l,ρ[gi]? =am l/\x= .ref l.a/\X=λc=>f7
 mid:=λρ s gi u x X=>GnM (C:=C) ρ s gi x X
 tg:=λc=>qm
 need:=r0+2
 mono:=λh e i hk=>xEA h λl h1 h=>⟨l,aR e h1,h⟩
 alive:=λh b hb=>c6 h λl h1 h2 h3=>by subst h3;exact hb.elim
 next:=by
  rintro A s ρ H gi x X Q r hnd hr S ⟨l,hl,rfl,rfl⟩ hX e
  have hr':Room (r0+2) A:=by
   refine xAA hr λh1 h2 h3=>?_
   exact⟨h1,A40 hnd h2,A41 hnd h3⟩
  have nxi:∀ {ρ' s'},Nx ρ noW s ρ' s'->NxI ρ (λc=>f7) s ρ' s':=λN=>⟨N.pre,N.new,N.kp,N.imm,λb o e c=>N.al b o e⟩
  refine wmN (aFf hG VV hr' S hl e) λo s' p=>?_
  cases p with
  |item S' N' r' hg q=>
   refine xE hg λgn hH=>?_
   refine xE (lR hG S' (aR N'.pre hl) hH) λk hk=>?_
   exact .item S' (nxi N') r' (.mk (aR N'.pre hl) hk) q
  |done S' N' q=>exact .done S' (nxi N') q
 lgo:=by
  rintro A s ρ H it x X u target r hr S M _ hX
  cases M with
  |mk h1 h2=>
   refine iE h2 λo nm qn h2 h3 c=>?_
   exact jZ (T:="generator") h2 h3 (by decide) ⟨S,.refl,_,h1,rfl,rfl⟩
theorem gR.gen(a:GCx C G)(d:∀ L,GV C r0 G g (G.envL L)):gR (jQ a r0 d):=by
 rintro A s ρ H it x X Q S ⟨y,e⟩ ⟨l,c,rfl,rfl⟩ h
 exact xE (e.elim λgn h q=>⟨gn,aFc h⟩) λgn b=>xE (lR a S c b) λk f=>tm f h
def iG(f:EF):Lo->MH->(Nat->MH->Prop)->Prop:=λlo H Q=>f lo H λv H1=>Lf v.rf λi=>(∃ gn,H1[i]? =am (.gen gn))/\Q i H1
theorem IV.gen(c:GCx C G)(k:∀ L,GV C r0 G g (G.envL L))(h:EV C r env e f):IV (jQ c r0 k) r env e (iG f):=λt t t t t t p S F q=>h.run p S F q λS1 m n q=>q.elim λi i q=>by
  refine c6 (n.toRef i) λl t a b=>rwL a ?_
  refine xA q λz106 q=>?_;obtain⟨s,d⟩:=z106
  exact xE (lR c S1 b d) λk o=>tm o ⟨S1,m,⟨l,b,rfl,rfl⟩,λb j=>j.elim,q⟩
def gE(K:ItK C)(ai:Nat):Nat->K.σ->MH->(MH->Prop)->Prop
 |0,_,_,_=>f7
 |n+1,it,H,Q=>K.nx it H λres H1=>match res with
  |none=>Q H1
  |some p=>Lf (H1[ai]?.bind MO.own) λvs=>vs.length<1000000/\gE K ai n p.2 (H1.set ai (.list (vs++[p.1]))) Q
inductive XEnd(C:Cx)(ρ0:aq Lc)(s0:bo)(ai:Nat)(l:Lc)(Q:MH->Prop)(s':bo):Prop
 |mk {ρ' H'} (S:Sim C H' ρ' s') (N:Nx ρ0 noW s0 ρ' s') (hl:ρ'[ai]? =am l) (q:Q H'):XEnd C ρ0 s0 ai l Q s'
theorem v9{K:ItK C}(f:K.need<=r)(w:∀ {ρ s it x X u},K.mid ρ s it u x X->K.rel ρ s it x X):∀ (n:Nat){A:fq}{m s:bo}{ρ0 ρ:aq Lc}{H:MH}{it:K.σ}{x:bt}{X:d3->Prop}{Q:MH->Prop},Room r A.in1->ρ[ai]? =am l->Nx ρ0 noW m ρ s->Sim C H ρ s-> K.rel ρ s it x X->(∀ b,X b->m.heap.get? b=ba/\¬Own ρ b/\C.base.heap.get? b=ba)->gE K ai n it H Q-> lz C.M A (.builtin "list.extend.loop" ⟨[.ref l.a,x,g],[]⟩) (λrr s'=>rr= .ok (.ret g)/\XEnd C ρ0 m ai l Q s') s:=λn=>by
 induction n with
 |zero=>
  intro _ _ _ _ _ _ _ _ _ _ _ _ _ _ _ _ e
  exact e.elim
 |succ n I=>
  intro A m s ρ0 ρ H it x X Q y v N S R c e
  refine codeAny_builtin PySem.F.entry_extend_loop (rwL (Around.under_plainId PySem.F.plain_extend_loop _) (zzB (wmN (K.next f y S R (λb q=>⟨(c b q).2.1,(c b q).2.2⟩) e) λo s1 p=>?_)))
  cases p with
  |done j d q=>exact zzP ⟨rfl,j,N.stepI d (λb q=>(c b q).1),aR d.pre v,q⟩
  |item j d D E q=>
   refine q.elim λvs G q=>xEE (jL j (aR d.pre v) (kO G)) λxs J O=>?_
   have B:xs.size<=ur:=by exact rwL ez (A33 O.r.sz q.1)
   have h:=λb q=>xE (K.alive R b q) λo' t=>d.owns t (c b q).2.1
   refine zzB (q4 O.x rfl (zzP ?_) B (by rw[Array.size_push];exact rz B))
   have st:=O.put (k:=s1.toks) j (λxs=>xs.push _) (by simpa using O.r.append (.cons D .nil))
   have i:=st.2 noW
   exact⟨vf PySem.F.plain_extend_loop _,I y (aR d.pre v) ((N.stepI d (λb q=>(c b q).1)).trans i) st.1 (K.mono (w E) i.pre i.imm (λb o q t=>i.kp b o t (h b q) (λz=>z))) (λb q=>⟨(c b q).1,h b q,(c b q).2.2⟩) q.2⟩
theorem rK{K:ItK C}(G:K.need<=r)(cy:∀ {ρ s it x X u},K.mid ρ s it u x X->K.rel ρ s it x X)(w:(Value.type T==Value.type "list")=false)(t:(Value.type T==Value.type "tuple")=false)(d:g4 (.type T) "__len__" =pure ba)(c:g4 (.type T) "__length_hint__" =pure ba){it:K.σ}{a:d3}(hr:Room (r+1) A)(N0:Nx ρ0 noW s0 ρ s)(S:Sim C H ρ s)(R:K.rel ρ s it (.ref a) X)(U:∀ b,X b->s0.heap.get? b=ba/\¬Own ρ b/\C.base.heap.get? b=ba)(j:s.TypeIs (.ref a) T)(y:∀ {Z:fq}{E' J:bt->bo->Prop} (s':bo),s'.heap.get? a=s.heap.get? a->J (.ref a) s'->bw C.M Z (vn (.ref a)) J E' s')(e:gE K H.length n it (H++[.list []]) Q):bw C.M A (call (.type "list") [.ref a]) (bQ C ρ0 s0 λv H'=>v= .ref H.length/\Q H') NoE s:=by
 refine (by
  intro C T w t d c A s a Q j y k
  refine callType_codes (Q₁:=λobj D=>obj= .ref s.heap.objs.size/\D= {s with heap:=s.heap.push {cls:=.type "list",data:=.seq #[]}}) PySem.F.called_list (PySem.F.typeCall_list_1 _) PySem.F.entry_list_init
   (code_list_new _ ⟨rfl,rfl⟩) λobj D B=>?_
  refine xA B λz107 P=>?_;clear B;subst z107;subst P
  refine xEA j λoa i I=>?_
  have W:(s.heap.push {cls:=.type "list",data:=.seq #[]}).get? s.heap.objs.size=am (qq "list" #[] 0):=Heap.get?_push_size _ rfl
  refine⟨⟨_,W,rfl⟩,PySem.F.args_list_init_2 _ _,?_⟩
  have E:∀ {h:kh}{f:jf bt->jf bt},(∀ b o,s.heap.get? b=am o->h.get? b=am o)->∀ b o,s.heap.get? b=am o->(h.update s.heap.objs.size (Obj.mapSeq f)).get? b=am o:=λ{h f} q b o e=>
   (Heap.get?_update_ne _ _ _ _ (md (Heap.lt_size e))).trans (q b o e)
  refine zzB (listItems_at W rfl (zzB (td W rfl (zzB (uz ?_)) (jw _) (jw _))))
  have k1:=E (f:=λ_=>(#[]:jf bt)) (λb o e=>Heap.get?_push_of_some _ e:∀ b o,s.heap.get? b=am o->(s.heap.push {cls:=.type "list",data:=.seq #[]}).get? b=am o)
  obtain⟨n1,h1⟩:∃ L,((s.heap.push {cls:=.type "list",data:=.seq #[]}).update s.heap.objs.size (Obj.mapSeq λ_=>(#[]:jf bt))).get? s.heap.objs.size=am (qq "list" #[] L):=⟨_,q8 W λ_=> #[]⟩
  revert k1 h1
  generalize (s.heap.push {cls:=.type "list",data:=.seq #[]}).update s.heap.objs.size (Obj.mapSeq λ_=>(#[]:jf bt))=V
  refine λk1 h1=>(zzB (tw ⟨oa,k1 _ _ i,I⟩ ?_))
  have g1:Builtin.List.listSameRef (.ref s.heap.objs.size) (.ref a)=false:=by simp only[Builtin.List.listSameRef];simpa using (λq=>by exact Nat.lt_irrefl _ (q▸(Heap.lt_size i)))
  simp only[g1,w,t,Bool.or_false,jv,pg]
  refine zzB (y _ ((k1 _ _ i).trans i.symm) (zzB (bx (zzB (pn ⟨oa,k1 _ _ i,I⟩ d (zzB (pn ⟨oa,k1 _ _ i,I⟩ c (zzP ?_))))))))
  show bw _ A.in1.in1 (rule "list.extend.makes-room" >>=λ_=>Builtin.List.listTouch (.ref s.heap.objs.size) >>=λ_=>
   again (.builtin "list.extend.loop" ⟨[.ref s.heap.objs.size,.ref a,.none],[]⟩)) _ _ _
  refine zzB (pt (zzB (zzB (q4 h1 rfl ?_ (by rw[ez];decide) (by rw[ez];decide)))))
  obtain⟨n2,N⟩:∃ L,(V.update s.heap.objs.size (Obj.mapSeq λxs=>xs.push .none)).get? s.heap.objs.size=am (qq "list" #[.none] L):=⟨_,q8 h1 λxs=>xs.push .none⟩
  refine q4 N rfl ?_ (by rw[ez];decide) (by rw[ez];decide)
  obtain⟨n3,h3⟩:∃ L,((V.update s.heap.objs.size (Obj.mapSeq λxs=>xs.push .none)).update s.heap.objs.size (Obj.mapSeq λxs=>xs.pop)).get? s.heap.objs.size=am (qq "list" #[] L):=⟨_,q8 N λxs=>xs.pop⟩
  exact zzP ⟨vf PySem.F.plain_extend_loop _,k4 (k _ n3 h3 (E (E (f:=λxs=>xs.push .none) k1))) λrr s5 p=>(xA p λe q=>e▸⟨rfl,q⟩)⟩:∀{C:Cx}{T:qp}(w:(Value.type T==Value.type "list")=false)(t:(Value.type T==Value.type "tuple")=false)(d:g4 (.type T) "__len__" =pure ba)(c:g4 (.type T) "__length_hint__" =pure ba){A:fq}{s:bo}{a:d3}{Q:bt->bo->Prop}(j:s.TypeIs (.ref a) T)(y:∀ {Z:fq}{E' J:bt->bo->Prop} (s':bo),s'.heap.get? a=s.heap.get? a->J (.ref a) s'->bw C.M Z (vn (.ref a)) J E' s')(k:∀ h' n,h'.get? s.heap.objs.size=am (qq "list" #[] n)->(∀ b o,s.heap.get? b=am o->h'.get? b=am o)->lz C.M A.in1 (.builtin "list.extend.loop" ⟨[.ref s.heap.objs.size,.ref a,.none],[]⟩) (λrr s'=>rr= .ok (.ret .none)/\Q (.ref s.heap.objs.size) s') {s with heap:=h'}),bw C.M A (call (.type "list") [.ref a]) Q NoE s) w t d c j y (λh' n1 hD kp=>?_)
 have g:=S.grow (k:=s.toks) (l:=⟨s.heap.objs.size,s.heap.objs.size,ba⟩) (m:=.list []) kp (aU _) (aU _) rfl ⟨rfl,rfl,_,_,hD,.nil⟩
 have O:=g.2 noW
 have cz:Room r A.in1.in1:=by
  exact xAA hr λh1 V h3=>⟨h1,zzM1 0x557cf692bea00015f3d07da402bea00007 [A.in1.in1.depth,r] ⋯ V,zzM1 0x51fa83da41a3e07d07da00000007ea0f41f69001a3ea00007 [A.units,r] ⋯ h3⟩
 refine k4 (v9 (ρ0:=ρ0) G cy n cz S.last (N0.trans O) g.1 (K.mono R O.pre O.imm (λb o q e'=>O.kp b o e' (U b q).2.1 (λz=>z)))
  (λb q=>⟨(U b q).1,xE (K.alive R b q) λo' e'=>O.own e' (U b q).2.1,(U b q).2.2⟩) e) λrr s5 p=>?_
 obtain⟨rfl,S5,N5,Y,q⟩:=p
 exact⟨rfl,S5,N5,.ref Y,rfl,q⟩
def isG(H:MH)(vs:aq V):bc Nat:=((one vs).bind V.rf).bind λi=>(H[i]?.bind MO.gn).map λq=>i
def k7(K:ItK C)(σ:Nat->K.σ):CF:=λvs H Q=>match isG H vs with
 |some i=>∃ n,gE K H.length n (σ i) (H++[.list []]) λH'=>Q (.ref H.length) H'
 |none=>cList vs H Q
set_option tactic.hygienic true in
theorem CV.listG(hG:GCx C G)(VV:∀ L,GV C r0 G g (G.envL L))(hnd:r0+2<=r):CV C (r+1) (.type "list") (k7 (jQ hG r0 VV) (λi=>i)):=by
 refine⟨dT,?_⟩
 intro A s ρ H J vs Q hr S rs e
 unfold k7 at e
 split at e
 ·rename_i i m
  refine xE e λn e=>xEA (bn.mp m) λj j m=>xEA (dy.mp m) λgn k c=>?_;subst c
  refine xEA (bn.mp j) λv B j=>xEA (jM rs B) λu b z=>rwL b ?_
  refine c6 (z.toRef j) λl a d u=>rwR a (rwL d ?_)
  refine wmN ((by
   exact xE (lR hG S u (aFc k)) λk t=>rK (K:=jQ hG r0 VV) hnd (λM=>by cases M with |mk v n=>exact⟨_,v,rfl,rfl⟩) (by decide) (by decide) PySem.F.gen_no_len PySem.F.gen_no_hint hr .refl S ⟨l,u,rfl,rfl⟩ (λb D=>D.elim) t.typeIs (λs' h q=>(i6 t λo nm w n E=>tm ⟨o,nm,w,h.trans n,E⟩ q)) e)) λx s' p=>?_
  obtain⟨x,I,y,f,q⟩:=p
  subst f
  exact⟨x,I,y,q⟩
 ·exact CV.list.call hr S rs e
structure KCx(C:Cx)(K:tf):Prop where
 mem:K.In C.base.heap
 makes:makesIn K d7=be
 init:findIn K (.ref d7) "__init__" =am (am (.ref 160))
 initT:typeIn K (.ref 160)=am (.type "function")
 callS:specialIn K (.ref d7) "__call__" =am (am (.builtin "type.__call__"))
 callM:specialIn K (.ref aF) "__call__" =am (am (.builtin "type.__call__"))
 typM:instIn K (.ref aF) (.type "type")=am be
 clsM:∃ oc od cd sl,K.lookup aF=am ⟨oc,od,.cls cd,sl⟩/\cd.mro= [.ref aF,.type "tuple",.type "object"]/\cd.hasDel=false/\cd.hasDict=false/\cd.slotNames= []/\(sl.toList[4]?).join=am .none/\cd.abstract=false/\cd.collection=ba
 clsS:∃ oc od cd sl,K.lookup d7=am ⟨oc,od,.cls cd,sl⟩
 readsM:readsIn K aF (.type "type")=be
 newM:findCls K (.ref aF) (.type "type") "__new__" =am (.get (.builtin "staticmethod.__get__") (.ref 136) .none (.ref aF))
 makeM:findCls K (.ref aF) (.type "type") "_make" =am (.get (.builtin "classmethod.__get__") (.ref 91) .none (.ref aF))
 smM:recIn K 136 "staticmethod" =am [.ref 82]
 cmM:∃ b,recIn K 91 "classmethod" =am [.ref 89,b]
 initM:findIn K (.ref aF) "__init__" =am (am (.builtin "object.__init__"))
 newT:typeIn K (.ref 82)=am (.type "function")
theorem vN{K:tf}(i:K.In C.base.heap)(j:∃ oc d cd sl,K.lookup c=am ⟨oc,d,.cls cd,sl⟩)(a:specialIn K (.ref c) "__call__" =am (am (.builtin "type.__call__"))):∀ h:kh,(∀ b o,C.base.heap.get? b=am o->h.get? b=am o)->∃ k,(k=Keeper.frame\/k=Keeper.machine\/k=Keeper.boundFrame)/\ph C.M h (keeperOf (.ref c)) k:=by
 refine λh n=>(j.elim λa0 f=>f.elim λa1 l=>l.elim λa2 m=>m.elim λa3 g=>(λoc d cd sl e=>?_) a0 a1 a2 a3 g)
 have X:=i.keeps n
 exact⟨.machine,.inr (.inl rfl),(Looks.ld (X _ _ e)).andThen ((looks_specialIn X a).andThen (Looks.of_pure (by simp)))⟩
theorem Room.under_call{a:aq bt}(b:Room (r+1) A):Room r (A.under (.builtin "type.__call__" ⟨.ref c::a,[]⟩)):=by
 refine xAA b λh1 d e=>?_
 have w1:(Code.builtin "type.__call__" ⟨.ref c::a,[]⟩).weight=1:=by first |rfl |kernel_rfl
 have w2:(Code.builtin "type.__call__" ⟨.ref c::a,[]⟩).cUnits=1:=by first |rfl |kernel_rfl
 refine⟨h1,(rwL w1 (A30 d):A.depth+(Code.builtin "type.__call__" ⟨.ref c::a,[]⟩).weight+10*r<=700),?_⟩
 ·exact(rwL w2 (zzM1 0x147ea0f69068f81f68000007ea0f41f69001a3ea00007 [A.units,r] ⋯ e):A.units+(Code.builtin "type.__call__" ⟨.ref c::a,[]⟩).cUnits+40*r<=8000)
def cNew(g:CF):CF:=λvs H Q=>g (.ref H.length::vs) (H++[.inst λq=>ba]) λv H'=>v= .none/\Q (.ref H.length) H'
theorem uI.run(h:lz C.M A c (uI C ρ s Q) d)(k:∀ {x s' a v H'},Sim C H' a s'->Nx ρ noW s a s'->VR a s'.heap x v->Q v H'->R (.ok (.ret x)) s'):lz C.M A c R d:=k4 h λrr s' b=>by
  cases rr with
  |error x=>exact b.elim
  |ok f=>
   cases f with
   |ret x=>exact by cases b with |mk S N r q=>exact k S N r q
   |_=>exact b.elim
theorem CV.sm{K:tf}(a:KCx C K)(j:CC C r (.ref 160) g):CV C (r+1) (.ref d7) (cNew g):=by
 refine⟨vN a.mem a.clsS a.callS,?_⟩
 intro A s ρ H v vs Q i S rs e
 have X:=a.mem.keeps S.keep
 obtain⟨h,u,d,t,os⟩:=s
 refine ju (make_core (makes_of X a.makes) (lh X a.init) (λself=>bind_fn X self a.initT) (.inl rfl) ?_)
 have G:=S.grow (l:=⟨h.objs.size+1,h.objs.size,ba⟩) (m:=.inst λw=>ba) (k:=t) (λb o e=>Heap.get?_push_of_some _ (Heap.get?_push_of_some _ e)) (Heap.get?_none_of_le (vH _)) (aU _) rfl ⟨rfl,md (qc _),⟨_,(by heap_get:((h.push emptyDict).push (instObj d7 h.objs.size)).get? (h.objs.size+1)=am (instObj d7 h.objs.size)),rfl,rfl,rfl⟩,λw=>ba,
  Heap.Ns1.of_empty ⟨_,#[],_,(Heap.get?_push_of_some _ (Heap.get?_push_at rfl rfl)),rfl,λe p=>bv p (by simp),λw=>rfl⟩,⟨_,(Heap.get?_push_of_some _ (Heap.get?_push_at rfl rfl)),rfl,rfl⟩,λx f=>bv rfl f,λw=>trivial⟩
 have c:=S.last (l:=⟨h.objs.size+1,h.objs.size,ba⟩)
 exact uI.run (j i.under_call G.1 (.cons (.ref c) (rs.nx (G.2 noW))) e) λS2 b n q=>by
  exact xA q λq1 q=>⟨(n.noT (by rw[q1];rfl)),S2,(G.2 _).trans b,.ref (aR b.pre c),q⟩
theorem aDp(a b c d:bt):sY "object.__init__" ⟨[a,b,c,d],[]⟩:=by delta sY;kernel_rfl
noncomputable abbrev sS(i j k:bt)(n:Nat)(dd:bc d3):Obj:= {cls:=.ref aF,dict:=dd,data:=.seq #[i,j,k] n}
def NewM(C:Cx)(r:Nat):Prop:=∀ {A:fq}{s:bo}{ρ:aq Lc}{H:MH}{a b c:bt}{i j k:Int},Room r A->Sim C H ρ s->VR ρ s.heap a (.int i)->VR ρ s.heap b (.int j)->VR ρ s.heap c (.int k)->
 lz C.M A (.call (.ref 82) ⟨[.ref aF,a,b,c],[]⟩) (uI C ρ s λv H'=>v= .mat i j k/\H'=H) s
def matF(H:MH)(is:aq Int):bc (V×MH):=match is with | [i,j,k]=>am (.mat i j k,H) |_=>ba
def yI:CF:=lf λvs H=>(Tis vs).bind (matF H)
theorem VR.toMat(r:VR ρ h u v)(e:v= .mat i j k):∃ a n t1 t2 t3 b,u= .ref a/\h.get? a=am (sS (.int i t1) (.int j t2) (.int k t3) n b):=by
 subst e
 exact k9 r.inv λa n t u v b c d=>⟨a,n,t,u,v,b,c,d⟩
theorem sQ{K:tf}(b:KCx C K)(X:K.In h):ph C.M h (mroOf (.ref aF)) [.ref aF,.type "tuple",.type "object"]:=by
 exact oA b.clsM λoc d e sl c a q=>rwR a (((Looks.ld (X _ _ c)).andThen .now).andThen .now)
theorem vK{K:tf}(c:KCx C K)(X:K.In h):ph C.M h (Bind.madeBy (.ref aF)) ba:=by
 refine iD c.clsM λoc m l sl j g f a i b d e=>λA Q E s k q=>(zzB ((sQ c X) A _ E s k ?_))
 rw[lw]
 exact zzB (zzB (zzB (zzB (uv (k _ _ (X _ _ j)) (zzP (rwR Array.getElem?_toList (rwL b (zzP (zzP (zzP q))))))))))
theorem tA{K:tf}(b:KCx C K)(X:K.In h)(hT:T= .ref aF\/T= .type "tuple" \/T= .type "object"):ph C.M h (pv (.ref aF) T) be:=by
 exact oA b.clsM λoc e d sl c a q=>looks_mroIn X (by unfold mroIn clsIn;refine rwL c ?_;rcases hT with rfl |rfl |rfl<;>simp [a])
set_option maxHeartbeats 1000000 in
theorem CV.mat{K:tf}(c:KCx C K)(hn:NewM C r):CV C (r+1) (.ref aF) yI:=by
 refine CV.of (vN c.mem (c.clsM.elim λoc h=>h.elim λod h=>h.elim λcd h=>h.elim λsl h=>⟨oc,od,cd,sl,h.1⟩) c.callM) λ{A s ρ H us vs v H'} hr S rs e=>?_
 refine xEA (bn.mp e) λis hi e=>?_
 refine xEA (rs.ints hi) λts hl1 hl2=>?_
 refine uK (aEs (F:=matF H) e rfl (λo=>rfl) (λo o=>rfl) λo o o o o=>rfl) λi j k z=>?_;subst z
 ·cases e
  refine uK (ts3 hl1 hl2) λta tb tc z113=>?_;subst z113
  clear rs hi hl1 hl2
  have X:=c.mem.keeps S.keep
  refine iD c.clsM λoc od cd sl eC hmro hdel hdict hsn hsl habs hcol=>?_
  have hC:=X _ _ eC
  have m:=looks_specialIn (M:=C.M) X c.callM
  have typ:=looks_instIn (M:=C.M) X c.typM
  refine ju ?_
  obtain⟨h,g,d,t,os⟩:=s
  refine ny ?_
  show bw _ _ (callAny (.ref aF) _) _ _ _
  refine nd_load hC ?_
  show bw _ _ (callAny.viaDunder (.ref aF) _) _ _ _
  unfold callAny.viaDunder
  refine zzB (m.at ?_)
  dsimp only
  rw[tc_bind]
  refine zzB (zzP (zzB (zzP ?_)))
  refine zzP (a:=PySem.Fin.again (.call (.builtin "type.__call__") ⟨.ref aF::[.int i ta,.int j tb,.int k tc],[]⟩)) (And.intro rfl ?_)
  refine codeAny_call_builtin_at (Code.quiet_builtin _ (by decide+kernel)) entry_typeCall (ty tc_kind tc_split typ (tc_args _ _ _) ?_)
  unfold Builtin.«type.__call__»
  have made:=vK c X
  have hm:=sQ c X
  have isT:=tA c X (.inl rfl)
  have lkI:=lh (M:=C.M) X c.initM
  have att:∀ {A':fq}{E':bt->bo->Prop}{Q':bt->bo->Prop}{b:ec},Q' (.ref 82) ⟨h,g,d,t+1,os⟩->bw C.M A' (uX (.ref aF) "__new__" b) Q' E' ⟨h,g,d,t,os⟩:=λhq=>cls_bind X c.readsM c.newM (ju (sm_get (s:=⟨h,g,d,t+1,os⟩) X c.smM (handed_on (by decide+kernel:handedIn (.ref 82)=be) hq)))
  repeat (first |with_reducible refine att ?_ |simp only[jv,f] |with_reducible refine ju ?_ |lk)
  refine uI.run (hn (s:=⟨h,g,d,t+1,os⟩) hr.under_call (S.toks _) (.int i ta) (.int j tb) (.int k tc)) λ{x s1 ρ1 v1 H1} S1 N1 r1 q=>?_
  refine xA q λq1 z114=>?_;clear q;subst z114
  refine k9 (r1.toMat q1) λx n1 t1 u1 w1 dd1 z115 hx=>?_;subst z115
  rw[q1]at r1
  have n:=c.mem.keeps S1.keep
  clear att isT made typ m hm lkI hC X hn
  have tx:ph C.M s1.heap (tt (.ref x)) (.ref aF):=(Looks.ld hx).andThen .now
  have isT1:=tA c n (.inl rfl)
  have lkI:=lh (M:=C.M) n c.initM
  have made1:=vK c n
  have isO:ph C.M s1.heap (tz (.ref x) (.type "object")) be:=tx.andThen (tA c n (.inr (.inr rfl)))
  have hC1:=n _ _ eC
  have hm1:=sQ c n
  have fin:EPo C ρ ⟨h,g,d,t,os⟩ H1 (.mat i j k) (.ref x) s1:=⟨ρ1,S1,(Nx.toks (t+1)).trans N1,r1⟩
  clear S1 N1 S r1 q1 n
  obtain⟨h1,g1,d1,tt1,os1⟩:=s1
  dsimp only at hx tx isT1 lkI isO hm1 made1 hC1
  unfold tz tF specialOf
  have bi:=Looks.of_pure (M:=C.M) (h:=h1) (oi_bind (.ref x))
  repeat (first |with_reducible refine ju ?_ |rw[Bool.not_true,jv,f] |lk)
  refine jz oi_plain entry_oi (ty oi_kind oi_split isO (aDp _ _ _ _) ?_)
  repeat (first |rw[List.isEmpty_cons,Bool.not_false,Bool.not_true,Bool.true_or,l,jv,f,vx] |lk)
  exact fin
theorem aHb:px "tuple.__new__" =am .builtinFn:=by decide+kernel
theorem aCj:splitId "tuple.__new__" =am ("tuple","__new__"):=by decide+kernel
theorem aCk:wm "tuple.__new__" =be:=by decide+kernel
structure uH(M:wg)(h:kh):Prop where
 obj:∃ oc od cd sl,h.get? aF=am ⟨oc,od,.cls cd,sl⟩/\cd.hasDel=false
 isT:ph M h (isType (.ref aF)) be
 sub:ph M h (pv (.ref aF) (.type "tuple")) be
 base:ph M h (Bind.staticBase (.ref aF)) (.type "tuple")
 init:ph M h (g4 (.ref aF) "__init__") (am (.builtin "object.__init__"))
theorem mfacts{K:tf}(p:KCx C K)(n:∃ oc i cd sl,K.lookup aF=am ⟨oc,i,.cls cd,sl⟩/\cd.bases= [.type "tuple"])(X:K.In h):uH M h:=by
 refine iD p.clsM λoc i cd sl g a c l t j r o=>pB n λoc' v w u e b=>?_
 rw[g]at e
 cases e
 have f:=X _ _ g
 have m:ph M h (mroOf (.ref aF)) cd.mro:=((Looks.ld f).andThen .now).andThen .now
 rw[a]at m
 have d:ph M h (Bind.madeBy (.ref aF)) ba:=by
  refine λA Q E s k q=>(zzB (m A _ E s k ?_))
  rw[lw]
  exact zzB (zzB (zzB (zzB (uv (k _ _ f) (zzP (rwR Array.getElem?_toList (rwL j (zzP (zzP (zzP q))))))))))
 refine⟨⟨oc,i,cd,sl,f,c⟩,(Looks.ld f).andThen .now,looks_mroIn X (by unfold mroIn clsIn;rw[g];simp [a]),?_,lh X p.initM⟩
 ·refine λA Q E s k q=>(zzB (m A _ E s k ?_))
  rw[lw]
  refine zzB (zzB (zzB (d A _ E s k (rwL (bz (by decide)) (zzB (((Looks.ld f).andThen .now:ph M h (classData aF) cd) A _ E s k (rwL b (rwL (by first |rfl |kernel_rfl:Builtin.Slots.bestBase [.type "tuple"]=pure (.type "tuple")) (zzB (zzP (zzP ?_)))))))))))
  dsimp only
  rw[lw,PySem.F.called_tuple.made]
  exact zzB (zzB (zzP (rwL (ca (by decide)) (zzP (zzP (zzP q))))))
set_option maxHeartbeats 1000000 in
theorem aA1(F:∀ h,(∀ b o,s.heap.get? b=am o->h.get? b=am o)->uH (ir prog w) h)(H:s.heap.get? l=am {cls:=.type "tuple",data:=.seq xs n})(k:xs.size<100)(h:∀ h' x K,(∀ b o,s.heap.get? b=am o->h'.get? b=am o)->h'.get? x=am {cls:=.ref aF,dict:=K,data:=.seq xs}->s.heap.get? x=ba->R (.ok (.ret (.ref x))) {s with heap:=h'}):
  lz (ir prog w) A (.call (.builtin "tuple.__new__") ⟨[.ref aF,.ref l],[]⟩) R s:=by
 obtain⟨⟨oc,N,M,sl,J,i⟩,I,L,B,C⟩:=F s.heap (λO O e=>e)
 have G:=PySem.F.called_tuple.made
 refine jz aCk PySem.F.entry_tuple_new ?_
 obtain⟨r,g,d,t,os⟩:=s
 dsimp only at*
 delta checkBuiltinCall;dsimp only;rw[aHb,aCj];dsimp only
 have u:∀ {y:fq}{z:bt->bo->Prop}{m:aq bt->bo->Prop},(∀ h',(∀ b o,r.get? b=am o->h'.get? b=am o)->m xs.toList ⟨h',g,d,t,os⟩)->bw (ir prog w) y (collect (.ref l)) m z ⟨r,g,d,t,os⟩:=by
  intro y z m E
  exact wpAny_collect_seq l (.inr rfl) H rfl rfl E (by rw[ez];exact A2 k)
 repeat (first |simp only[v.not_true,jv,f,a,j] | (rw[G];refine zzP ?_) |with_reducible refine u ?_ |lk)
 intro D c
 refine zzB (zzP (zzB (wpAny_alloc (zzB ?_))))
 delta newObj
 dsimp only
 rw[bz (by simp [ez];exact A2 k)]
 unfold newObjAsIs classHasDel
 have p:=c _ _ J
 refine zzB (wpAny_alloc (zzB (zzB (wpAny_load (Heap.get?_push_of_some _ (Heap.get?_push_of_some _ p)) (zzP ?_)))))
 rw[i]
 refine zzP (zzP ?_)
 refine h _ _ _ (λb o e=>Heap.get?_push_of_some _ (Heap.get?_push_of_some _ (c b o e))) (by exact rwL Array.toArray_toList (Heap.get?_push_size _ rfl)) ?_
 cases q:r.get? (D.push {cls:=.type "dict",data:=.dict #[]}).objs.size with
 |none=>rfl
 |some o=>
  have:=Heap.get?_push_of_some {cls:=.type "dict",data:=.dict #[]} (c _ _ q)
  rw[aU]at this;cases this
theorem nil_in(h:kh):Frag.In [] h:=λq q e=>by cases e
theorem aB0(h:Q (.builtin "tuple.__new__",[]) {s with toks:=s.toks+1}):bw (ir prog w) A (getMethod (.type "tuple") "__new__" pl) Q E s:=by
 have X:=nil_in s.heap
 have a:opaqueClassAbove (.type "tuple")=pure ba:=by delta opaqueClassAbove;dsimp only;rw[show Manifest.isStub "tuple" =false by decide+kernel];rfl
 have b:tt (.type "tuple")=pure (.type "type"):=by first |rfl |kernel_rfl
 refine zzB (zzB ((Looks.of_pure b).here ((lh X type_tga).here ?_)))
 dsimp only
 refine rwL (ca canon_tga) (zzB (f4 ?_ (λq q z=>zzP z) λq q z=>z))
 refine cls_open X (Looks.of_pure a) (Looks.of_pure b) type_tga (looks_hook X (by rfl)) (by rfl) (by first |decide+kernel |kernel_rfl:findCls [] (.type "tuple") (.type "type") "__new__" =am (.val (.builtin "tuple.__new__")))
  (zzP (by exact rwL (handedOut_of (by decide+kernel:handedIn (.builtin "tuple.__new__")=be)) (zzP h)))
def V.rw:V->bc d3 | .raw a=>am a |_=>Option.none
theorem VR.toRaw{a:d3}(r:VR ρ h u v)(e:v.rw=am a):u= .ref a:=by
 cases v with
 |raw=>exact cxS e r.inv
 |_=>first |exact aE e |cases e
def i3(l:aq Int):bc (Int×Int×Int):=match l with | [i,j,k]=>am (i,j,k) |_=>ba
theorem i3_ok(e:i3 l=am p):l= [p.1,p.2.1,p.2.2]:=by
 refine uK (aEs e rfl (λq=>rfl) (λq q=>rfl) λq q q q q=>rfl) λa b c z=>?_;subst z;refine cxS e ?_;rfl
def aCm(vs:aq V):bc (aq Int):=match vs with | [a,b]=>if a.rw=am 135 then b.tp.bind Tis else ba |_=>ba
def aAl(fs:EFs):EF:=λlo H Q=>fs lo H λvs H1=>Lf ((aCm vs).bind i3) λp=>Q (.mat p.1 p.2.1 p.2.2) H1
set_option tactic.hygienic true in
theorem EV.tnew(U:∀ h,(∀ b o,C.base.heap.get? b=am o->h.get? b=am o)->uH C.M h)(N:Glo C "tuple" (.type "tuple"))(d:env.kindOf "tuple" =am .globalImplicit)(W:EVs C r env l fs)(f:l9 env l)(I:fM env (.Name "tuple" J) "__new__" c pos l):EV C r env (.Call (.Attribute (.Name "tuple" J) "__new__" c) l [] pos) (aAl fs):=λA s ρ H lo Q R S F q=>fD (P:=λ_ _=>qm) I.base I.few I.line (kV N d (by decide+kernel) S F λpl=>aB0 (om (by rw[f.2];rfl) cQ
  (wmN (j6 W f R (S.toks (s.toks+1)) (F.nx (.toks _)) q) λa s1 p=>by
  obtain⟨ps,Z⟩:=a
  obtain⟨E,B,L,rs,q⟩:=p
  subst E
  refine⟨B.keep,q.elim λp X q=>(xEA (bn.mp X) λis t G=>o9 ((by
   intro ρ h D vs is r e
   refine xEE (sZ e rfl (λ_=>rfl) λ_ _ _ _=>rfl) λa b z=>?_;subst z
   replace e:=show (if _ then _ else _)=_ from e
   split at e
   ·rename_i t
    refine xEA (bn.mp e) λws G e=>bM r.a2 λu v j K rv=>rwL j ?_
    obtain⟨m,i,n,_,k,g,_,rs⟩:=rv.toTup G;refine rwL k ?_
    exact xEA (rs.ints e) λts t1 t2=>⟨m,i,n,ts,by rw[K.toRaw t],g,t1,t2⟩
   ·exact aE e:∀{ρ:aq Lc}{h:kh}{D:aq bt}{vs:aq V}{is:aq Int}(r:VRs ρ h D vs)(e:aCm vs=am is),∃ m i n ts,D= [.ref 135,.ref m]/\h.get? m=am {cls:=.type "tuple",data:=.seq i n}/\ts.length=is.length/\i.toList=(is.zip ts).map λx=>Value.int x.1 x.2) rs t) λtp i n ts y gt t1 t2=>?_)⟩
  subst y
  obtain rfl:=i3_ok G
  refine uK (ts3 t1 t2) λt u w t3=>?_
  have A:=Array.toList_inj.mp t3
  subst A
  exact ju (aA1 (λh d=>U h λb o e=>d b o (B.keep b o e)) gt (show 3<100 by decide) λh' x Y d O T=>⟨B.extS d,(Nx.toks _).trans (L.trans (.ext d)),.mat O,q⟩))))
structure KMx(C:Cx)(K:tf):Prop where
 toK:KCx C K
 bases:∃ oc od cd sl,K.lookup aF=am ⟨oc,od,.cls cd,sl⟩/\cd.bases= [.type "tuple"]
 iter:findIn K (.ref aF) "__iter__" =am (am (.builtin "tuple.__iter__"))
 len:findIn K (.ref aF) "__len__" =am (am (.builtin "tuple.__len__"))
 lt:findIn K (.ref aF) "__lt__" =am (am (.builtin "tuple.__lt__"))
 tup:subIn K (.ref aF) (.type "tuple")=am be
theorem aCw:si sj "tuple.__iter__" =am Builtin.«tuple.__iter__»:=mh ⋯
theorem aCt:si sj "tuple.__len__" =am Builtin.«tuple.__len__»:=mh ⋯
theorem aHg:px "tuple.__iter__" =am .slot:=by decide+kernel
theorem aCu:splitId "tuple.__iter__" =am ("tuple","__iter__"):=by decide+kernel
theorem aCv:wm "tuple.__iter__" =be:=by decide+kernel
theorem aHh(a:bt):sY "tuple.__iter__" ⟨[a],[]⟩:=by delta sY;kernel_rfl
theorem aHd:px "tuple.__len__" =am .slot:=by decide+kernel
theorem aCq:splitId "tuple.__len__" =am ("tuple","__len__"):=by decide+kernel
theorem aCr:wm "tuple.__len__" =be:=by decide+kernel
theorem aHe(a:bt):sY "tuple.__len__" ⟨[a],[]⟩:=by delta sY;kernel_rfl
theorem ifb{b:ec}(L:ph M s.heap m x)(h:Q (am x) s):bw M A (if b=be then(do let y<-m;pure (am y)) else(do let y<-m;pure (am y):Sem (bc (bt×aq bt))).tryCatch λq=>do rule "special.get-raises-dropped";pure ba) Q E s:=by
 split
 ·exact zzB (L.here (zzP h))
 ·exact wpAny_tryCatch (zzB (L.here (zzP h)))
set_option maxHeartbeats 1000000 in
theorem w3{K:tf}(e:KMx C K){a:d3}(X:K.In s.heap)(f:s.heap.get? a=am {cls:=.ref aF,dict:=j,data:=.seq xs n})(h:Q (.ref s.heap.objs.size) {s with heap:=s.heap.push {cls:=.type "tuple_iterator",data:=.fields #[.ref a,.int 0 0]}}):bw C.M A (vn (.ref a)) Q E s:=by
 obtain⟨c,g,d,t,os⟩:=s
 have i:ph C.M c (tt (.ref a)) (.ref aF):=(Looks.ld f).andThen .now
 have k:=lh (M:=C.M) X e.iter
 repeat (first |with_reducible refine ju ?_ |lk)
 refine ifb (Looks.of_pure (M:=C.M) (h:=c) (slot_tuple_iter.bind (.ref a))) ?_
 repeat (first |rw[show (Value.builtin "tuple.__iter__" ==Value.none)=false from by decide,jv,b] |with_reducible refine ju ?_ |lk)
 refine jz aCv aCw (ty aHg aCu (i.andThen (uP X e.tup)) (aHh _) ?_)
 show bw _ _ (do ret (<-newFields "tuple_iterator" [.ref a,rawInt 0])) _ _ _
 refine zzB (fv (zzP (zzP (zzB (zzB (tw ⟨_,Heap.get?_push_size _ rfl,rfl⟩ ?_))))))
 exact jy ma.lookup (zzP h)
theorem kQ{a:jf bt}(b:IsTupIter s.heap it t i)(f:s.heap.get? t=am g)(e:g.data= .seq a j)(l:a[i]? =am x)(k:∀ h',IsTupIter h' it t (i+1)->Heap.SameBut it s.heap h'->Q (am x) {s with heap:=h'}):bw (ir prog w) A (nr (.ref it)) Q E s:=by
 refine c6 (id b) λo d h c=>?_
 delta nr
 refine zzB (ly (e8 b.typeIs ma
  (fu ma b.typeIs uQ ?_ (vd _))))
 show bw _ _ (wz (.ref it) 0 >>=_) _ _ s
 refine zzB (gx d c (x:=.ref t) rfl (rwL (bz (show¬((Value.ref t==Value.none)=be) from Bool.false_ne_true)) (zzB (gx d c rfl (zzB (hE f e ?_))))))
 simp only[jb,l]
 refine zzB (qg d c (by simp) (zzP ⟨x,rfl,zzP (k _ ?_ (Heap.SameBut.update ..))⟩))
 exact⟨_,Heap.get?_update_self _ d (Obj.isFreed_of_fields (Obj.data_mapFields c _)),(Obj.cls_mapFields ..).trans h,by
  rw[Obj.data_mapFields c];simp [rawInt]⟩
theorem aBn{b:jf bt}(h:A.handled=ba)(c:IsTupIter s.heap it t i)(g:s.heap.get? t=am j)(d:j.data= .seq b k)(m:b[i]? =ba)(l:∀ h',Heap.ExtBut it s.heap h'->Q ba {s with heap:=h'}):bw (ir prog w) A (nr (.ref it)) Q E s:=by
 refine c6 (id c) λo e n f=>?_
 delta nr
 refine zzB (ly (e8 c.typeIs ma
  (fu ma c.typeIs uQ ?_ (vd _))))
 show bw _ _ (wz (.ref it) 0 >>=_) _ _ s
 refine zzB (gx e f (x:=.ref t) rfl (rwL (bz (show¬((Value.ref t==Value.none)=be) from Bool.false_ne_true)) (zzB (gx e f rfl (zzB (hE g d ?_))))))
 simp only[jb,m]
 refine zzB (pt (zzB (qg e f (by simp) (zzB (zzB (fv (zzB (jy (a:=Value.none) (by first |rfl | (rfl)) (fv ?_ (by size_fits)))) (by size_fits)))))))
 delta raiseNew;refine zzB (s7 ?_)
 first |refine rwL (show A.in1.handled=ba from h) ?_ |rw[h]
 refine zzB (zzP (ux ?_))
 refine zzB (ki ⟨_,Heap.get?_push_size _ rfl,rfl⟩ qh ?_)
 exact zzP (l _ (((Heap.SameBut.update ..).extBut.push _).push _))
theorem wO{K:tf}(B:KMx C K){a:d3}(D:A.handled=ba)(X:K.In s.heap)(t:s.heap.get? a=am {cls:=.ref aF,dict:=G,data:=.seq #[x,y,z] n})(F:c.length=3)(d:c.findIdx? (·.1)=ba)(h:∀ h',(∀ b o,s.heap.get? b=am o->h'.get? b=am o)->bw C.M A (qx (c.map (·.2)) [x,y,z]) Q E {s with heap:=h'}):bw C.M A (unpack (.ref a) c) Q E s:=by
 delta unpack
 refine rwL F (rwL d (zzB (bx ?_)))
 delta unpackItems
 refine zzB (zzB (zzB (((Looks.ld t).andThen .now:ph C.M s.heap (tt (.ref a)) (.ref aF)).here ((lh (M:=C.M) X B.iter).here (zzP (zzB (bx (w3 B X t ?_))))))))
 have f:=md (Heap.lt_size t)
 have p:=Heap.get?_push_of_some {cls:=.type "tuple_iterator",data:=.fields #[.ref a,.int 0 0]} t
 refine zzB (bx (zzB (kQ ⟨_,Heap.get?_push_size _ rfl,rfl,rfl⟩ p rfl (x:=x) rfl λh1 g k=>?_)))
 have m:=k.extBut a _ f p
 refine zzB (bx (zzB (kQ (s:= {s with heap:=h1}) g m rfl (x:=y) rfl λh2 l q=>?_)))
 have i:=q.extBut a _ f m
 refine zzB (bx (zzB (kQ l i rfl (x:=z) rfl λh3 r j=>?_)))
 have w:=j.extBut a _ f i
 refine zzB (bx (zzP (zzP (zzP (zzP (rwL (bz (by simp)) (zzB (bx (aBn D r w rfl rfl λh4 v=>(zzP (h h4 λb o e=>?_)))))))))))
 have u:=md (Heap.lt_size e)
 exact v b o u (j.extBut b o u (q.extBut b o u (k.extBut b o u (Heap.get?_push_of_some _ e))))
def V.mt:V->bc (Int×Int×Int) | .mat i j k=>am (i,j,k) |_=>Option.none
theorem mt_ok{v:V}(e:v.mt=am p):v= .mat p.1 p.2.1 p.2.2:=by
 cases v with
 |mat=>refine cxS e ?_;rfl
 |_=>first |exact aE e |cases e
def cM(n:Nat)(g:AFs):AF:=λv lo H Q=>match v.mt with
 |some p=>n=3/\g [.int p.1,.int p.2.1,.int p.2.2] lo H Q
 |none=>uF n g v lo H Q
set_option tactic.hygienic true in
theorem AV.tupleM{K:tf}(i:KMx C K){pos}(h:AVs C r env c g)(j:(gj c env).length=n)(b:(gj c env).findIdx? (·.1)=ba):AV C r env (.Tuple c k pos) (cM n g):=by
 intro A s ρ H lo u v Q f S F rv e
 unfold cM at e
 split at e
 ·rename_i p m
  obtain⟨l,e⟩:=e
  subst l
  obtain⟨a,n,t1,t2,t3,q,rfl,o⟩:=rv.toMat (mt_ok m)
  rw[assign_Tuple]
  exact zzB (f5 (wO i f.1 (i.toK.mem.keeps S.keep) o j b λh' d=>(wmN (h f (S.extS d) (F.nx (.ext d)) (.cons (.int _ _) (.cons (.int _ _) (.cons (.int _ _) .nil))) e) λt t p=>p.from (Nx.ext d))))
 ·exact AVW.tuple h j b f S F rv e
def b5:CF:=λvs H Q=>match (one vs).bind V.mt with
 |some _=>Q (.int 3) H
 |none=>cLen vs H Q
set_option maxHeartbeats 1000000 in
theorem uB{K:tf}(e:KMx C K){s:bo}{a:d3}(X:K.In s.heap)(g:s.heap.get? a=am {cls:=.ref aF,dict:=o,data:=.seq xs n})(b:(xs.size:Int)<2 ^ 63)(h:Q (.int xs.size (s.toks+1)) {s with toks:=s.toks+1+1}):bw C.M A (call (.builtin "len") [.ref a]) Q E s:=by
 refine call_function_entry kind_len plain_len entry_len (args_len1 _) ?_
 unfold Builtin.«len»
 refine zzB (m:=oneArg "len" _) (zzP ?_)
 have i:ph C.M s.heap (tt (.ref a)) (.ref aF):=(Looks.ld g).andThen .now
 have d:∀ {f:fq}{j:bt->bo->Prop}{c:bc bt->bo->Prop},c (am (.int xs.size s.toks)) {s with toks:=s.toks+1}->bw C.M f (tF (.ref a) "__len__") c j s:=by
  intro f j c l
  refine zzB (zzB (i.here ((lh (M:=C.M) X e.len).here (bx (zzB ((Looks.of_pure (M:=C.M) (h:=s.heap) (slot_tuple_len.bind (.ref a))).here (zzB (ju (jz aCr aCt (ty aHd aCq (i.andThen (uP X e.tup)) (aHe _) ?_))))))))))
  show bw _ _ (do let k<-Builtin.Tuple.tupleItemsOf (.ref a);retInt k.size) _ _ s
  refine zzB (zzB (hE g rfl (zzP (zzB (wpAny_mkInt (zzP (zzP l)))))))
 exact zzB (d (zzB (bx (zzP (zzB (uz (rwL (bz A14) (rwL (bz (A45 b)) (zzB (wpAny_mkInt (zzP ⟨_,rfl,h⟩)))))))))))
set_option tactic.hygienic true in
theorem CV.lenM{K:tf}(d:KMx C K):CV C r (.builtin "len") b5:=by
 refine⟨cQ,?_⟩
 intro A s ρ H j vs Q i S rs e
 unfold b5 at e
 split at e
 ·rename_i p c
  refine xEA (bn.mp c) λv f c=>xEA (jM rs f) λu b g=>rwL b ?_
  refine k9 (g.toMat (mt_ok c)) λa n t1 t2 t3 k a h=>rwL a ?_
  exact uB d (d.toK.mem.keeps S.keep) h (by simp) (.tok S (.int _ _) e)
 ·exact CV.len.call i S rs e
theorem jP:Slot "map" "__next__" "map.__next__" :=.of (owner:="map") (n:="__next__") (by rw[fx,dx];kernel_rfl) (by decide+kernel) (by decide+kernel) (by decide+kernel)
  (by first |exact .inl (by decide+kernel) |exact .inr (by decide+kernel)) (by rw[ja];kernel_rfl)
theorem vJ:Slot "map" "__iter__" "map.__iter__" :=.of (owner:="map") (n:="__iter__") (by rw[fx,dx];kernel_rfl) (by decide+kernel) (by decide+kernel) (by decide+kernel)
  (by first |exact .inl (by decide+kernel) |exact .inr (by decide+kernel)) (by rw[ja];kernel_rfl)
theorem jO:si sj "map.__next__" =am Builtin.«map.__next__»:=mh ⋯
theorem kA(a:bt):sY "map.__next__" ⟨[a],[]⟩:=by delta sY;kernel_rfl
theorem zK:mroOf (.type "map")=pure [.type "map",.type "object"]:=by rw[mroOf_type];kernel_rfl
theorem aIl:pv (.type "map") (.type "map")=pure be:=by rw[ja];kernel_rfl
noncomputable abbrev aEe(h:kh)(l:d3):kh:=h.push {cls:=.type "list_iterator",data:=.fields #[.ref l,.int 0 0]}
noncomputable abbrev zM(h:kh)(l:d3):kh:=(aEe h l).push {cls:=.type "tuple",data:=.seq #[.ref h.objs.size]}
noncomputable abbrev aEd(h:kh)(f:bt)(l:d3):kh:=(zM h l).push {cls:=.type "map",data:=.fields #[.ref (aEe h l).objs.size,f]}
theorem aGs(hl:s.heap.IsList l xs)(h:Q (.ref (zM s.heap l).objs.size) {s with heap:=aEd s.heap f l}):bw (ir prog w) A (call (.type "map") [f,.ref l]) Q E s:=by
 exact callType_new ⟨by decide+kernel,by decide+kernel,⟨_,_,zK⟩,madeBy_type zK (by rw[fx,dx];kernel_rfl:g4 (.type "map") "__new__" =pure (am (.builtin "map.__new__"))) (by decide+kernel),by decide+kernel,by rw[ja];kernel_rfl,(.of (owner:="object") (n:="__init__") (by rw[fx,dx];kernel_rfl) (by decide+kernel) (by decide+kernel) (by decide+kernel)
     (by first |exact .inl (by decide+kernel) |exact .inr (by decide+kernel)) (by rw[ja];kernel_rfl))⟩ (by decide) (by kernel_rfl) (by kernel_rfl) (λobj=>PySem.F.args_object_init_3 obj _ _) (mh ⋯) ((by
      exact λf l xs=>.of_wp λprog w A R s h=>by
         obtain⟨hp,g,d,tk,os⟩:=s;refine xA h λhl1 h=>?_
         have a:=aIl
         wp_walk using qb hl1
         exact⟨_,rfl,h⟩:∀(f:bt)(l:d3)(xs:jf bt),Meets (Builtin.«map.__new__» ⟨[.type "map",f,.ref l],[]⟩) (λq R s=>s.heap.IsList l xs/\R (.ok (.ret (.ref (zM s.heap l).objs.size))) {s with heap:=aEd s.heap f l})) f l xs) ⟨hl,⟨⟨_,Heap.get?_push_size _ rfl,rfl⟩,h⟩⟩
theorem kR{a:jf bt}(b:s.heap.IsListIter it l i)(g:s.heap.IsList l a)(k:a[i]? =am x)(j:∀ h',h'.IsListIter it l (i+1)->Heap.SameBut it s.heap h'->Q (am x) {s with heap:=h'}):bw (ir prog w) A (tF (.ref it) "__next__") Q E s:=by
 refine c6 (id b) λo d h c=>yR g λol f q m e=>e8 b.typeIs ku
  (fu ku b.typeIs rx ?_ (ss _))
 show bw _ _ (wz (.ref it) 0 >>=_) _ _ s
 refine zzB (gx d c (x:=.ref l) rfl (rwL (bz (show¬((Value.ref l==Value.none)=be) from Bool.false_ne_true)) (zzB (gx d c rfl (zzB (hE f e ?_))))))
 simp only[jb,k]
 refine zzB (qg d c (by simp) (zzP ⟨x,rfl,j _ ?_ (Heap.SameBut.update ..)⟩))
 exact⟨_,Heap.get?_update_self _ d (Obj.isFreed_of_fields (Obj.data_mapFields c _)),(Obj.cls_mapFields ..).trans h,by
  rw[Obj.data_mapFields c];simp [rawInt]⟩
theorem lL{b:jf bt}(k:A.handled=ba)(c:s.heap.IsListIter it l i)(h:s.heap.IsList l b)(m:b[i]? =ba)(j:∀ h' y,(∃ o,h'.get? y=am o/\o.cls= .type "StopIteration")->Heap.ExtBut it s.heap h'->E (.ref y) {s with heap:=h'}):bw (ir prog w) A (tF (.ref it) "__next__") Q E s:=by
 refine c6 (id c) λo e n f=>yR h λol g q p d=>e8 c.typeIs ku
  (fu ku c.typeIs rx ?_ (ss _))
 show bw _ _ (wz (.ref it) 0 >>=_) _ _ s
 refine zzB (gx e f (x:=.ref l) rfl (rwL (bz (show¬((Value.ref l==Value.none)=be) from Bool.false_ne_true)) (zzB (gx e f rfl (zzB (hE g d ?_))))))
 simp only[jb,m]
 refine zzB (pt (zzB (qg e f (by simp) (zzB (zzB (fv (zzB (jy (a:=Value.none) (by first |rfl | (rfl)) (fv ?_ (by size_fits)))) (by size_fits)))))))
 delta raiseNew;exact zzB (s7 (rwL (show A.in1.handled=ba from k) (zzB (zzP (ux (j _ _ ⟨_,Heap.get?_push_size _ rfl,rfl⟩ (((Heap.SameBut.update ..).extBut.push _).push _)))))))
structure wK(h:kh)(z TI it m l:d3)(k:Nat):Prop where
 z:h.get? z=am {cls:=.type "map",data:=.fields #[.ref TI,.ref m]}
 TI:h.get? TI=am {cls:=.type "tuple",data:=.seq #[.ref it]}
 it:h.IsListIter it l k
 m:h.get? m=am (methodObj (.ref 89) (.ref aF))
theorem aEa{a:jf bt}(P:wK s.heap z d it m l k)(i:z≠it)(h:d≠it)(n:m≠it)(q:s.heap.IsList l a)(p:a[k]? =am x)(o:∀ h',wK h' z d it m l (k+1)->Heap.SameBut it s.heap h'->lz (ir prog w) A.in1 (.call (.ref 89) ⟨[.ref aF,x],[]⟩) (λrr s'=>match rr with | .ok (.ret v)=>Q (am v) s' |_=>f7) {s with heap:=h'}):
  bw (ir prog w) A (nr (.ref z)) Q E s:=by
 delta nr
 refine zzB (ly (e8 ⟨_,P.z,rfl⟩ jP (fu jP ⟨_,P.z,rfl⟩ jO ?_ (kA _))))
 refine zzB (zzP (zzB (gx P.z rfl rfl (zzB (hE P.TI rfl ?_)))))
 dsimp only
 rw[<-Array.forIn_toList]
 rw[lw]
 refine zzB (zzB (zzB (bx (zzB (kR P.it q p λh1 c b=>(zzP (zzP ?_)))))))
 dsimp only
 refine rwL u0 (zzP ?_)
 have j:wK h1 z d it m l (k+1):=⟨b.extBut z _ i P.z,b.extBut d _ h P.TI,c,b.extBut m _ n P.m⟩
 refine zzB (gx j.z rfl rfl (zzB (bx (ju (method_call j.m (k4 (o h1 j b) ?_))))))
 intro rr s' g
 cases rr with
 |error e=>exact g.elim
 |ok f=>
  cases f with
  |ret v=>exact zzB (uz (zzP ⟨v,rfl,zzP g⟩))
  |_=>exact g.elim
theorem aIm{a:jf bt}(i:A.handled=ba)(P:wK s.heap z d it m l k)(b:s.heap.IsList l a)(j:a[k]? =ba)(h:∀ h',Heap.ExtBut it s.heap h'->Q ba {s with heap:=h'}):bw (ir prog w) A (nr (.ref z)) Q E s:=by
 delta nr
 refine zzB (ly (e8 ⟨_,P.z,rfl⟩ jP (fu jP ⟨_,P.z,rfl⟩ jO ?_ (kA _))))
 refine zzB (zzP (zzB (gx P.z rfl rfl (zzB (hE P.TI rfl ?_)))))
 dsimp only
 rw[<-Array.forIn_toList]
 rw[lw]
 exact zzB (zzB (zzB (bx (zzB (lL i P.it b j λh1 y e g=>(xEA e λo f c=>zzB (ki ⟨o,f,c⟩ qh (zzP (h h1 g)))))))))
theorem Ti_eq(e:Ti v=am i):v= .int i:=by
 cases v with
 |int=>refine cxS e ?_;rfl
 |_=>first |exact aE e |cases e
def t3(v:V):bc (Int×Int×Int):=(v.tp.bind Tis).bind i3
theorem t3_eq(e:t3 v=am p):v= .tup [.int p.1,.int p.2.1,.int p.2.2]:=by
 refine xEA (bn.mp e) λl b c=>xEA (bn.mp b) λws d f=>?_
 obtain rfl:=i3_ok c
 obtain rfl:=(by
  exact λ{n}=>by
    induction n with
    |nil=>
     intro _ e
     refine cxS e ?_;rfl
    |cons v vs g=>
     intro is e
     simp only[Tis,uU,vw,bn,pure_def,Option.some.injEq]at e
     refine aCd e λi b js c a=>?_;clear e;subst a
     rw[Ti_eq b,g c];rfl:∀ {vs:aq V}{is:aq Int},Tis vs=am is->vs=is.map .int) f
 cases v with
 |tup=>refine cyS d λzq=>?_;subst zq;rfl
 |_=>cases d
def qS(C:Cx)(r:Nat):Prop:=∀ {A:fq}{s:bo}{ρ:aq Lc}{H:MH}{a:bt}{i j k:Int},Room r A->Sim C H ρ s->VR ρ s.heap a (.tup [.int i,.int j,.int k])->
 lz C.M A (.call (.ref 89) ⟨[.ref aF,a],[]⟩) (uI C ρ s λv H'=>v= .mat i j k/\H'=H) s
inductive MpR(ρ:aq Lc)(h:kh)(σ:Nat×Nat):bt->(d3->Prop)->Prop
 |mk {z TI it m l} (h1:ρ[σ.1]? =am l) (n1:z≠it) (n2:TI≠it) (n3:m≠it) (n4: ¬mS ρ TI) (P:wK h z TI it m l.a σ.2):MpR ρ h σ (.ref z) (λb=>b=z\/b=it\/b=m)
theorem MpR.mono{a:aq Lc}(R:MpR ρ h σ x X)(e:ρ<+:a)(i:Im ρ a h h')(d:∀ b o,X b->h.get? b=am o->h'.get? b=am o):MpR a h' σ x X:=by
 cases R with
 |mk g m l f k P=>
  obtain⟨p1,p2,⟨o,p3,c⟩,p4⟩:=P
  have j:=i _ _ p2 (by simp [aY]) λq=>k
  exact .mk (aR e g) m l f (j.2 rfl) ⟨d _ _ (.inl rfl) p1,j.1,⟨o,d _ _ (.inr (.inl rfl)) p3,c⟩,d _ _ (.inr (.inr rfl)) p4⟩
theorem NxI.thenN{a:aq Lc}(I:NxI ρ X s c s1)(N:Nx c noW s1 a s2)(m:∀ b,X b->(∃ o,s.heap.get? b=am o)->∃ o,s1.heap.get? b=am o):NxI ρ X s a s2:=by
 refine⟨I.pre.trans N.pre,λl i=>(xE I.pre λt f=>?_),λb o e j h=>N.kp b o (I.kp b o e j h) (I.owns e j) id,I.imm.trans N.imm,λb o e h=>xE (I.al b o e h) λo' g=>N.al b o' g⟩;subst f
 refine xE N.pre λt' d=>?_;subst d
 rw[dt,nO]at i
 have k:∀ b,s1.heap.get? b=ba->s.heap.get? b=ba:=λb p=>by
  cases e:s.heap.get? b with
  |none=>rfl
  |some o=>
   refine xE (Classical.byCases (λq:X b=>m b q ⟨o,e⟩) λq=>I.al b o e q) λo' g=>?_
   cases (p▸g)
 refine Or.elim (e7.mp i) (λq=>(I.new l (by simpa using q))) λq=>?_
 ·have n:=N.new l (by simpa using q)
  exact⟨k _ n.1,k _ n.2⟩
set_option tactic.hygienic true in
def s6(C:Cx)(r0:Nat)(hm:qS C r0):ItK C where
 σ:=Nat×Nat
 nx:=λit H Q=>Lf (lst H (.ref it.1)) λvs=>match vs[it.2]? with
  |none=>Q ba H
  |some v=>Lf (t3 v) λp=>Q (am (.mat p.1 p.2.1 p.2.2,(it.1,it.2+1))) H
 rel:=λρ s σ x X=>MpR ρ s.heap σ x X
 mid:=λρ s σ u x X=>MpR ρ s.heap σ x X
 tg:=λd=>qm
 need:=r0+1
 mono:=λR e i hk=>R.mono e i hk
 alive:=λR b hb=>by
  cases R with
  |mk h1 n1 n2 n3 n4 P=>
   obtain⟨p1,p2,⟨o,p3,p3'⟩,p4⟩:=P
   rcases hb with rfl |rfl |rfl
   ·exact⟨_,p1⟩
   ·exact⟨_,p3⟩
   ·exact⟨_,p4⟩
 next:=λ{A s ρ H σ x X Q r} hnd hr S R hX q=>by
  have hr':Room r0 A.in1:=by
   refine xAA hr λa b c=>?_
   exact⟨a,by show A.depth+10*r0<=700;exact A46 hnd b,by show A.units+1+40*r0<=8000;exact A47 hnd c⟩
  refine q.elim λvs hl q=>?_
  cases R with
  |mk h1 n1 n2 n3 n4 P=>
  rename_i z TI it m l
  refine bM (b6 S (.ref h1) hl) λad xs q1 q2 q3=>?_
  cases q1
  refine c6 P.it λoi hoi hci hdi=>?_
  have hi:∀ o,s.heap.get? it=am o->¬aY o:=λo' e'=>by rw[hoi]at e';cases e';exact mG hci hdi
  have hXi:=hX it (.inr (.inl rfl))
  cases hv:vs[σ.2]? with
  |some v=>
   rw[hv]at q
   refine Lf.elim (o:=t3 v) q λp hp q=>?_
   refine xEA (q3.get hv) λu hu ru=>?_
   rw[t3_eq hp]at ru
   refine aEa P n1 n2 n3 q2 (by simpa using hu) λh' P' hs=>?_
   have st:=S.iterStep (h':=h') (a:=it) (λb o hb e=>(hs.2 b hb).trans e) hi hXi.1 hXi.2
   refine uI.run (hm hr' st.1 (ru.mono (cc _) st.2.imm)) λS2 N2 r2 q2=>?_
   refine xA q2 λqv z124=>?_;clear q2;subst z124
   have kp:∀ b o,(b=z\/b=it\/b=m)->h'.get? b=am o->_:=λb o hb eb=>N2.kp b o eb (hX b hb).1 (λq=>q)
   have I2:=st.2.thenN N2 λb hb d=>by rw[show b=it from hb];refine xEA P'.it λo e d=>?_;exact⟨o,e⟩
   refine .item (it':=(σ.1,σ.2+1)) S2 ⟨I2.pre,I2.new,λb o e ho hb=>I2.kp b o e ho λq=>hb (.inr (.inl q)),I2.imm,λb o e hb=>I2.al b o e λq=>hb (.inr (.inl q))⟩ r2 ?_ (by rw[qv];exact q)
   refine xEA P'.it λoi' e1' e2'=>?_
   have j:=N2.imm _ _ P'.TI (by simp [aY]) λd=>n4
   exact .mk (aR N2.pre h1) n1 n2 n3 (j.2 rfl) ⟨kp z _ (.inl rfl) P'.z,j.1,⟨oi',kp it _ (.inr (.inl rfl)) e1',e2'⟩,kp m _ (.inr (.inr rfl)) P'.m⟩
  |none=>
   rw[hv]at q
   refine aIm hr.1 P q2 (Array.getElem?_eq_none (by rw[q3.sz];exact getElem?_eq_none_iff.mp hv)) λh' he=>?_
   have st:=S.iterStep (h':=h') (a:=it) (λb o hb e=>he b o hb e) hi hXi.1 hXi.2
   exact .done st.1 ⟨st.2.pre,st.2.new,λb o e ho hb=>st.2.kp b o e ho (λq=>hb (.inr (.inl q))),st.2.imm,λb o e hb=>st.2.al b o e (λq=>hb (.inr (.inl q)))⟩ q
 lgo:=λ{A s ρ H σ x X u target r} hr S R d hX=>by
  have R':=R
  cases R with
  |mk h1 n1 n2 n3 n4 P=>exact jZ (T:="map") P.z rfl (by decide) ⟨S,.refl,R'⟩
theorem aEi(j:qS C r0)(c:r0+1<=r)(i:Room (r+1) A)(k:Nx ρ0 noW d ρ s)(S:Sim C H ρ s)(R:MpR ρ s.heap σ (.ref z) X)(f:∀ b,X b->d.heap.get? b=ba/\¬Own ρ b/\C.base.heap.get? b=ba)(e:gE (s6 C r0 j) H.length n σ (H++[.list []]) Q):bw C.M A (call (.type "list") [.ref z]) (bQ C ρ0 d λv H'=>v= .ref H.length/\Q H') NoE s:=by
 have a:∃ g m,s.heap.get? z=am {cls:=.type "map",data:=.fields #[g,m]}:=by
  cases R with
  |mk o u t l p P=>exact⟨_,_,P.z⟩
 exact xEE a λTI m a=>rK c (λM=>M) (by decide) (by decide) (by rw[fx,dx];kernel_rfl:g4 (.type "map") "__len__" =pure ba) (by rw[fx,dx];kernel_rfl:g4 (.type "map") "__length_hint__" =pure ba) i k S R f ⟨_,a,rfl⟩ (λs' h q=>(by
  exact wpAny_pyIter_slot ⟨_,h.trans a,rfl⟩ vJ (fu vJ ⟨_,h.trans a,rfl⟩ (by exact uu (id':="dict_keyiterator.__iter__") (by rw[fastTable_eq_tree];kernel_rfl) (by first |rfl |decide+kernel) (by decide+kernel) (by rw[fastTable_eq_tree];kernel_rfl):si sj "map.__iter__" =am Builtin.«dict_keyiterator.__iter__») (zzP ⟨_,rfl,"map",_,⟨_,h.trans a,rfl⟩,jP.lookup,q⟩) (by delta sY;kernel_rfl)))) e
theorem tD{K:tf}(a:KCx C K){b:ec}(X:K.In s.heap)(h:Q (.ref s.heap.objs.size) {s with heap:=s.heap.push (methodObj (.ref 89) (.ref aF)),toks:=s.toks+1}):bw C.M A (uX (.ref aF) "_make" b) Q E s:=by
 exact xE a.cmM λbb c=>cls_bind X a.readsM a.makeM (ju (cm_get X c (handed_on rfl h)))
theorem wI{a:aq Expr}(b:e9 (e::a) env=(false,jc e env)::e9 a env)(h:bw M A (spliced (lr pos (e9 (e::a) env))) (λvs s'=>Q ⟨vs,[]⟩ s') E s):bw M A (evalArgs f be (lr pos (e9 (e::a) env)) []) Q E s:=by
 rw[b]at h ⊢
 exact evalArgs_plain h
def eLM(K:ItK C)(σ:Nat->K.σ)(f:EF):EF:=λlo H Q=>f lo H λa H1=>Lf a.rf λci=>(∃ vs,lst H1 (.ref ci)=am vs)/\∃ n,gE K H1.length n (σ ci) (H1++[.list []]) λH2=>Q (.ref H1.length) H2
theorem EV.listMap{K:tf}(hK:KCx C K)(hm:qS C r0)(u:r0+1<=r)(he:EV C (r+1) env e f)(gl:Glo C "list" (.type "list"))(W:Glo C "map" (.type "map"))(J:Glo C "Match" (.ref aF))(D:env.kindOf "list" =am .globalImplicit)(Z:env.kindOf "map" =am .globalImplicit)(U:env.kindOf "Match" =am .globalImplicit)(z:e9 [.Call (.Name "map" p2) [.Attribute (.Name "Match" p3) "_make" p4,e] [] p5] env=(false,jc (.Call (.Name "map" p2) [.Attribute (.Name "Match" p3) "_make" p4,e] [] p5) env)::e9 [] env)(e2:e9 [.Attribute (.Name "Match" p3) "_make" p4,e] env=(false,jc (.Attribute (.Name "Match" p3) "_make" p4) env)::e9 [e] env)(Y:e9 [e] env=(false,jc e env)::e9 [] env)(T:∀ pos,(lr pos (e9 [.Call (.Name "map" p2) [.Attribute (.Name "Match" p3) "_make" p4,e] [] p5] env)).any (·.1)=false)(G:∀ pos,(lr pos (e9 [.Attribute (.Name "Match" p3) "_make" p4,e] env)).any (·.1)=false)(t:kg (.Name "Match" p3) "_make" env (jc (.Name "Match" p3) env)=jc (.Name "Match" p3) env)(M:∀ o y,on (.Name "Match" p3) o y=pure ()):EV C (r+1) env (.Call (.Name "list" p1) [.Call (.Name "map" p2) [.Attribute (.Name "Match" p3) "_make" p4,e] [] p5] [] p6) (eLM (s6 C r0 hm) (λi=>(i,0)) f):=by
 refine λA s ρ H lo Q A S F q=>(k6 (kV gl D (by decide+kernel) S F (om (by rw[T];rfl) dT (wI z (qo (k6 (kV W Z (by decide+kernel) S F (om (by rw[G];rfl) dT (wI e2 (qo (dN t (kV J U (by decide+kernel) S F (tD hK (hK.mem.keeps S.keep) (qo (he.run A ((S.push (methodObj (.ref 89) (.ref aF))).toks (s.toks+1)) (F.nx ((Nx.push _).trans (.toks _))) q λ{x s1 N v1 H1} c w R q=>q.elim λci m q=>(xAE q λz125 n q=>xE z125 λvs I=>?_)) Y)))) e2))))) z)))))
 refine ug ⟨c.keep,c6 (R.toRef m) λlc _ h g=>rwL h ?_⟩
 refine bM (b6 c (.ref g) I) λad xs X O q3=>?_
 cases X
 have k:=fC S (aU _)
 have j:=w.kp _ _ (Heap.get?_push_size _ rfl) k (λq=>q)
 have l:∀ b o,s1.heap.get? b=am o->(aEd s1.heap (.ref s.heap.objs.size) lc.a).get? b=am o:=λb o e=>Heap.get?_push_of_some _ (Heap.get?_push_of_some _ (Heap.get?_push_of_some _ e))
 refine aGs O (ug ⟨λb o e=>l b o (c.keep b o e),?_⟩)
 have d:=((Nx.push _).trans (.toks _)).trans w
 have v:(aEe s1.heap lc.a).objs.size=s1.heap.objs.size+1:=Heap.size_push ..
 have B:(zM s1.heap lc.a).objs.size=s1.heap.objs.size+2:=by rw[Heap.size_push,v]
 refine wmN (aEi hm (ρ0:=ρ) (σ:=(ci,0)) u A (d.trans (.ext l)) (c.extS l)
  (.mk g (by exact rwL B (Nat.ne_of_gt (Nat.lt_add_of_pos_right (by decide)))) (by exact rwL v (Nat.ne_of_gt (qc _))) (md (Heap.lt_size j)) (c.nown (by exact rwL v (Heap.get?_none_of_le (vH _))))
   ⟨Heap.get?_push_size _ rfl,Heap.get?_push_of_some _ (Heap.get?_push_size _ rfl),⟨_,Heap.get?_push_of_some _ (Heap.get?_push_of_some _ (Heap.get?_push_size _ rfl)),rfl,rfl⟩,l _ _ j⟩) (λb V=>?_) q) λx s' p=>?_
 ·rcases V with rfl |rfl |rfl
  ·exact cP d c (by exact rwL B (Heap.get?_none_of_le (r5 _ _)))
  ·exact cP d c (aU _)
  ·exact⟨aU _,w.own (Heap.get?_push_size _ rfl) k,eA S (aU _)⟩
 ·obtain⟨P,N',E,L,q⟩:=p
  subst L
  exact⟨P,N',E,q⟩
theorem Yn0:m<=n->¬(m<=p)->((2:Nat)*q)<=(p+m)->(p+m)<((2:Nat)*(q+(1:Nat)))->q<n:=zzM 0x32ba41f6b00007dac00be07da2a000007a2a02b0be007a2aa00107a68007 [m,n,p,q] ⋯
theorem Yn4:m<n->p<=m->¬(p<=q)->((2:Nat)*r)<=(q+p)->(q+p)<((2:Nat)*(r+(1:Nat)))->r<n:=zzM 0x656e907db00001f6c002f81f6aac00001eaac0b02f801e8aea0041e8a801e907da00007 [m,n,p,q,r] ⋯
def PW(n:Nat)(c:Nat->Nat->ec):KasT α->(α->Prop)->Prop
 | .ret a,Q=>Q a
 | .ask i j k,Q=>i<n/\j<n/\i≠j/\PW n c (k (c i j)) Q
theorem PW.bind{Q:β->Prop}:∀ {t:KasT α},PW n c t (λa=>PW n c (f a) Q)->PW n c (t.bind f) Q
 | .ret _,h=>h
 | .ask i j k,⟨b,e,d,g⟩=>⟨b,e,d,PW.bind g⟩
theorem PW.mono{b:α->Prop}(d:∀ a,Q a->b a):∀ {t:KasT α},PW n c t Q->PW n c t b
 | .ret _,h=>d _ h
 | .ask i j k,⟨e,g,f,l⟩=>⟨e,g,f,PW.mono d l⟩
theorem PW.wp{R:α->bo->Prop}{b:Nat->Nat->(ec->bo->Prop)->bo->Prop}{I:bo->Prop}(e:∀ i j D s,i<n->j<n->i≠j->I s->(∀ s',I s'->D (c i j) s')->b i j D s)(f:∀ a s,Q a->I s->R a s):∀ {t:KasT α},PW n c t Q->∀ s,I s->t.kasWp b R s
 | .ret _,h,s,hs=>f _ s h hs
 | .ask i j k,⟨g,m,l,o⟩,s,hs=>e i j _ s g m l hs λs' d=>PW.wp e f o s' d
structure Ord(n:Nat)(c:Nat->Nat->ec):Prop where
 tr:∀ x y z,c x y=be->c y z=be->c x z=be
 tot:∀ x y,x<n->y<n->x≠y->c x y=be\/c y x=be
 asy:∀ x y,c x y=be->c y x=false
def gt(p:jf Nat)(i:Nat):Nat:=p.getD i 0
structure Pm(n:Nat)(p:jf Nat):Prop where
 pm:p.Perm (List.toArray (List.range n))
theorem Pm.tl(P:Pm n p):p.toList.Perm (List.range n):=P.pm.toList
theorem Pm.sz(P:Pm n p):p.size=n:=by
 have:=P.tl.length_eq
 rw[qi]at this
 exact this
theorem Pm.at(P:Pm n p)(h:i<n):∃ h':i<p.toList.length,gt p i=p.toList[i]:=by
 have h':=P.sz.symm▸h
 refine⟨h',?_⟩
 delta gt
 rw[Array.getD_eq_getD_getElem?,Array.getElem?_eq_getElem h'];rfl
theorem Pm.lt(P:Pm n p)(i:Nat)(h:i<n):gt p i<n:=by
 obtain⟨h',e⟩:=P.at h
 exact rwL e (List.mem_range.mp (P.tl.mem_iff.mp (List.getElem_mem h')))
theorem Pm.inj(P:Pm n p)(i j:Nat)(d:i<n)(b:j<n)(h:gt p i=gt p j):i=j:=by
 obtain⟨e,a⟩:=P.at d
 obtain⟨f,c⟩:=P.at b
 rw[a,c]at h
 exact(List.getElem_inj (P.tl.nodup_iff.mpr List.nodup_range)).mp h
def Sd(c:Nat->Nat->ec)(p:jf Nat)(m:Nat):Prop:=∀ i j,i<j->j<m->c (gt p i) (gt p j)=be
def Ds(c:Nat->Nat->ec)(p:jf Nat)(m:Nat):Prop:=∀ i j,i<j->j<m->c (gt p j) (gt p i)=be
theorem Sd.snoc(O:Ord n c)(h:Sd c p k)(h1:1<=k)(b:c (gt p (k-1)) (gt p k)=be):Sd c p (k+1):=by
 intro i j a d
 rcases qy j k with q |q
 ·exact h i j a q
 ·obtain rfl:j=k:=A63 d q
  rcases qy i (j-1) with z |z
  ·exact O.tr _ _ _ (h i (j-1) z (A64 z)) b
  ·obtain rfl:i=j-1:=A65 a z
   exact b
theorem Ds.snoc(O:Ord n c)(h:Ds c p k)(h1:1<=k)(b:c (gt p k) (gt p (k-1))=be):Ds c p (k+1):=by
 intro i j a d
 rcases qy j k with q |q
 ·exact h i j a q
 ·obtain rfl:j=k:=A63 d q
  rcases qy i (j-1) with z |z
  ·exact O.tr _ _ _ b (h i (j-1) z (A64 z))
  ·obtain rfl:i=j-1:=A65 a z
   exact b
theorem other(O:Ord n c)(P:Pm n p)(d:i<n)(b:j<n)(a:i≠j)(h:c (gt p i) (gt p j)=false):c (gt p j) (gt p i)=be:=by
 rcases O.tot _ _ (P.lt i d) (P.lt j b) (λq=>a (P.inj i j d b q)) with q |q
 ·cases (q▸h)
 ·exact q
theorem yL(O:Ord n c)(P:Pm n p):∀ (f k:Nat),1<=k->k+f<=n->Sd c p k->PW n c (kas_asc p f k) (λm=>k<=m/\m<=k+f/\Sd c p m/\(m<k+f->c (gt p m) (gt p (m-1))=be)):=λl=>by
 induction l with
 |zero=>
  exact λk i g h=>⟨Nat.le_refl _,Nat.le_refl _,h,λq=>bv q (Nat.lt_irrefl _)⟩
 |succ f o=>
  refine λk i g h=>⟨P.lt k (A66 g),P.lt (k-1) (A67 g),λq=>by exact(A68 i (P.inj k (k-1) (A66 g) (A67 g) q)).elim,?_⟩
  cases j:c (p.getD k 0) (p.getD (k-1) 0) with
  |true=>exact⟨Nat.le_refl _,A69,h,λr=>j⟩
  |false=>
   show PW n c (if false=be then _ else kas_asc p f (k+1)) _
   exact rwL (bz (by decide)) ((o (k+1) A70 (A71 g) (h.snoc O i (other O P (A66 g) (A67 g) (A72 i) j))).mono λm z=>xAAA z λa b d e=>⟨A32 a,A73 b,d,λq=>e (zzM1 0x16a07da40001f6800007da80a4007da00007 [m,k,f] ⋯ q)⟩)
theorem vU(h:p[i]? =q[j]?):gt p i=gt q j:=by
 delta gt
 rw[Array.getD_eq_getD_getElem?,Array.getD_eq_getD_getElem?,h]
set_option tactic.hygienic true in
theorem aE8(a:m<=p.size):gt (kas_rev p 0 m) k=if k<m then gt p (m-1-k) else gt p k:=by
 have h:=getElem?_mirror_all (i:=0) a k
 split
 ·rename_i q
  rw[ca ⟨jw _,q⟩]at h
  refine vU (h.trans ?_)
  congr 1
  exact (zzM0 0x4104142082150890410448214882082841044a11244291128410a41f68041a41f6803d001041 [m,k] ⋯)
 ·rename_i q
  rw[bz (λz=>q z.2)]at h
  exact vU h
theorem Pm.rev(P:Pm n p):Pm n (kas_rev p 0 m):=⟨(mirror_perm _ _ _ _).trans P.pm⟩
theorem Ds.rev(P:Pm n p)(d:m<=n)(h:Ds c p m):Sd c (kas_rev p 0 m) m:=by
 intro i j a b
 rw[aE8 (by rw[P.sz];exact d),aE8 (by rw[P.sz];exact d),ca (A53 a b),ca b]
 exact h _ _ (zzM2 0x8a2290a82a0502810888a2290a82a4290a8281a01f6a04107da41f6a041000a81f690001e907da00007 [i,j,m] ⋯ a b) (zzM1 0x228a48a41f6a07da4104002907da00007 [j,m,i] ⋯ b)
set_option tactic.hygienic true in
theorem aGj(O:Ord n c)(P:Pm n p)(v:1<=n):PW n c (kas_count n p) (λr=>Pm n r.2/\1<=r.1/\r.1<=n/\Sd c r.2 r.1):=by
 delta kas_count
 refine PW.bind ((yL O P (n-1) 1 (Nat.le_refl _) (zzM1 0x94a01f68041f4002807d007 [n] ⋯ v) (λi j o s=>(A81 o s).elim)).mono λm x=>xAAA x λa b d e=>?_)
 split
 ·rename_i B
  exact⟨P,a,zzM2 0xa54a29001f68041f40a401e807d007 [n,(m, p).fst] ⋯ v b,d⟩
 ·rename_i B
  have t:=by simpa using B
  split
  ·rename_i o
   exact⟨P.lt 0 (A83 b o),P.lt (m-1) (A84 b o),λq=>by exact(A85 o (P.inj 0 (m-1) (A83 b o) (A84 b o) q)).elim,rwL (d 0 (m-1) (zzM1 0xa907da0107d03d000a01f41f40007 [m] ⋯ o) (zzM1 0x152807d07da01000a01f41f40007 [m] ⋯ o)) ⟨P,a,zzM2 0xa4a9a00a01f41f4000707da4107d028007 [(m, p).fst,n] ⋯ b o,d⟩⟩
  ·rename_i o
   obtain rfl:m=1:=zzM2 0x4a81f68068a01f41f400041e807d007 [m] ⋯ a o
   have F:Ds c p 2:=by
    intro i j s H
    obtain rfl:j=1:=zzM2 0x4a81f69042f41f690001e907da00007 [i,j] ⋯ s H
    obtain rfl:i=0:=zzM1 0x2503da0107d07da00007 [i] ⋯ s
    exact e (zzM2 0xa485141f68041f4007d07d000a2807d0441e807d007 [n] ⋯ v t)
   delta kas_descPart
   refine PW.bind (((by
    exact λ{n c} O {p} P=>λl=>by
      induction l with
      |zero=>
       exact λk o s h=>⟨rfl,rfl,Nat.le_refl _,Nat.le_refl _,h⟩
      |succ f I=>
       refine λk o s h=>⟨P.lt k (A66 s),P.lt (k-1) (A67 s),λq=>by exact(A68 o (P.inj k (k-1) (A66 s) (A67 s) q)).elim,?_⟩
       cases A:c (p.getD k 0) (p.getD (k-1) 0) with
       |true=>
        show PW n c (if be=be then(if 0>0 then _ else kas_desc f p (k+1) 0) else _) _
        exact rwL (ca rfl) (rwL (bz (zzM0 0x1a00f41f40f40004 [] ⋯)) ((I (k+1) A70 (A71 s) (h.snoc O o A)).mono λr z=>xAAAA z λa b d e g=>⟨a,b,A32 d,A73 e,g⟩))
       |false=>
        exact rwL (bz (by decide)) ⟨P.lt (k-1) (A67 s),P.lt k (A66 s),λq=>by exact(A76 o (P.inj (k-1) k (A67 s) (A66 s) q)).elim,rwL (other O P (A66 s) (A67 s) (A72 o) A) ⟨rfl,rfl,Nat.le_refl _,by exact(A69:k<=k+(f+1)),h⟩⟩:∀{n:Nat}{c:Nat->Nat->ec}(O:Ord n c){p:jf Nat}(P:Pm n p),∀ (f k:Nat),1<=k->k+f<=n->Ds c p k->PW n c (kas_desc f p k 0) (λr=>r.1=p/\r.2.2=0/\k<=r.2.1/\r.2.1<=k+f/\Ds c p r.2.1)) O P (n-(1+1)) 2 (zzM0 0x42f41f40 [] ⋯) (zzM2 0x1240a8a01f41f40a010bd000a2807d0441e807d007 [n] ⋯ v t) F).mono λr y=>xAAAA y λr1 G w D C=>?_)
   rw[bz (zzM1 0x9a2807d03d000100f68047 [r.snd.snd] ⋯ G)]
   delta kas_tail3
   refine rwL r1 ?_
   have u:=A96 v t D
   exact PW.bind ((yL O P.rev (n-r.2.1) r.2.1 (zzM1 0x16807d0280bd007 [r.snd.fst] ⋯ w) (zzM1 0x2529a29068000a68007 [r.snd.fst,n] ⋯ u) (C.rev P u)).mono λm' z=>xAAA z λa' b' E J=>⟨P.rev,by exact(zzM2 0x56907d029a001e80bd007 [r.snd.fst,m'] ⋯ w a':1<=m'),by exact(zzM2 0x29529a80a2906802a007a68007 [r.snd.fst,n,m'] ⋯ u b':m'<=n),E⟩)
set_option tactic.hygienic true in
theorem pU(O:Ord n c)(P:Pm n p)(e:k<n)(hs:Sd c p k):∀ (f l r:Nat),l<=r->r<=k->r-l<=f->(∀ i,i<l->c (gt p i) (gt p k)=be)->(∀ i,r<=i->i<k->c (gt p k) (gt p i)=be)-> PW n c (kas_place p k f l r) (λx=>x<=k/\(∀ i,i<x->c (gt p i) (gt p k)=be)/\(∀ i,x<=i->i<k->c (gt p k) (gt p i)=be)):=λzz=>by
 induction zz with
 |zero=>
  exact λl r s b j h g=>⟨A101 s b,h,λi d=>g i (A102 j d)⟩
 |succ f v=>
  intro l r s b j h g
  unfold kas_place
  split
  ·exact⟨A101 s b,h,λi d=>g i (by omega)⟩
  ·rename_i a
   refine⟨P.lt k e,P.lt ((l+r)/2) (Yn4 e b a zzD zzE),λq=>by exact (by exact λ{m n p q}=>zzM 0x9ae807dac00be07da2a000007a2a02b0be007ae9047a2aa00107a68007 [m,n,p,q] ⋯:∀{m:Nat}{n:Nat}{p:Nat}{q:Nat},m<=n->¬(m<=p)->n=q->((2:Nat)*q)<=(p+m)->(p+m)<((2:Nat)*(q+(1:Nat)))->f7) b a (P.inj k ((l+r)/2) e (Yn4 e b a zzD zzE) q) zzD zzE,?_⟩
   cases t:c (p.getD k 0) (p.getD ((l+r)/2) 0) with
   |true=>
    refine v l ((l+r)/2) ((by exact λ{m n p}=>zzM 0x1a6aa4007da800be07da29000007a2902a0be007a29a00107 [m,n,p] ⋯:∀{m:Nat}{n:Nat}{p:Nat},¬(m<=n)->((2:Nat)*p)<=(n+m)->(n+m)<((2:Nat)*(p+(1:Nat)))->n<=p) a zzD zzE) ((by exact λ{m n p q}=>zzM 0xcae9ac007dac00be07da2a000007a2a02b0be007a2aa00107a68007 [m,n,p,q] ⋯:∀{m:Nat}{n:Nat}{p:Nat}{q:Nat},m<=n->¬(m<=p)->((2:Nat)*q)<=(p+m)->(p+m)<((2:Nat)*(q+(1:Nat)))->q<=n) b a zzD zzE) ((by exact λ{m n p q}=>zzM 0x10312818aaa9ac1001f6b002f81f68a400001e8a40ac2f801c1f6a029a01007 [m,n,p,q] ⋯:∀{m:Nat}{n:Nat}{p:Nat}{q:Nat},(m-n)<=(p+(1:Nat))->((2:Nat)*q)<=(n+m)->(n+m)<((2:Nat)*(q+(1:Nat)))->(q-n)<=p) j zzD zzE) h λi d o=>?_
    rcases Nat.eq_or_lt_of_le d with q |q
    ·exact rwR q t
    ·exact O.tr _ _ _ t (hs _ i q o)
   |false=>
    have u:=other O P e (Yn4 e b a zzD zzE) ((by exact λ{m n p q}=>zzM 0xcae8ae904407dac00be07da2a000007a2a02b0be007a2aa00107a68007 [m,n,p,q] ⋯:∀{m:Nat}{n:Nat}{p:Nat}{q:Nat},m<=n->¬(m<=p)->((2:Nat)*q)<=(p+m)->(p+m)<((2:Nat)*(q+(1:Nat)))->¬(n=q)) b a zzD zzE) t
    refine v ((l+r)/2+1) r ((by exact λ{m n p}=>zzM 0x65a01f6a00007da800be07da29000007a2902a0be007a29a00107 [m,n,p] ⋯:∀{m:Nat}{n:Nat}{p:Nat},¬(m<=n)->((2:Nat)*p)<=(n+m)->(n+m)<((2:Nat)*(p+(1:Nat)))->(p+(1:Nat))<=m) a zzD zzE) b ((by exact λ{m n p q}=>zzM 0x4068a054aa07dac0a01001f6b002f81f68a400001e8a40ac2f801c1f6a029a01007 [m,n,p,q] ⋯:∀{m:Nat}{n:Nat}{p:Nat}{q:Nat},(m-n)<=(p+(1:Nat))->((2:Nat)*q)<=(n+m)->(n+m)<((2:Nat)*(q+(1:Nat)))->(m-(q+(1:Nat)))<=p) j zzD zzE) (λi d=>?_) g
    rcases Nat.eq_or_lt_of_le (Nat.le_of_lt_succ d) with q |q
    ·exact rwL q u
    ·exact O.tr _ _ _ (hs i _ q (Yn0 b a zzD zzE)) u
set_option tactic.hygienic true in
theorem aE9(c:k<p.size)(b:l<=k):gt (bubble p k (k-l)) i=if i=l then gt p k else if l<i/\i<=k then gt p (i-1) else gt p i:=by
 have h:=getElem?_bubble c (k-l) (zzM0 0x4a8a68040 [k,l] ⋯) i
 rw[(A104 b)]at h
 split
 ·rename_i q;rw[ca q]at h;exact vU h
 ·rename_i q
  rw[bz q]at h
  split
  ·rename_i a;rw[ca a]at h;exact vU h
  ·rename_i a;rw[bz a]at h;exact vU h
theorem aGx(O:Ord n c):∀ (f:Nat){p:jf Nat} (k:Nat),Pm n p->Sd c p k->k+f=n->PW n c (kas_bin f p k) (λq=>Pm n q/\Sd c q n):=λzz=>by
 induction zz with
 |zero=>
  intro p k P hs s
  obtain rfl:k=n:=zzM1 0x149a6806903da00047 [k,n] ⋯ s
  exact⟨P,hs⟩
 |succ f v=>
  intro p k P hs s
  refine PW.bind ((pU O P (A106 s) hs k 0 k (jw _) (Nat.le_refl _) (zzM0 0x12a00f68040 [k] ⋯) (λi u=>bv u (Nat.not_lt_zero _)) (λi h g=>bv h (zzM1 0x5a28a4012907da00007 [i,k] ⋯ g))).mono λl z=>xAA z λa b d=>?_)
  have r:k<p.size:=by exact rwL P.sz (A106 s)
  refine v (k+1) ⟨(bubble_perm _ _ _).trans P.pm⟩ (λi j e o=>?_) (A109 s)
  ·rw[aE9 r a,aE9 r a]
   by_cases h:i=l
   ·rw[ca h,bz (zzM2 0x29a2aa4112aa011e907da00007 [i,j,l] ⋯ e h),ca (zzM3 0x8946aa40a41f6b00016ba011c1f6a001f690001e907da00007 [i,j,k,l] ⋯ e o h)]
    exact d _ (zzM2 0x2a5241f6906a02aa011e907da00007 [i,j,l] ⋯ e h) (zzM2 0x952a81f41f69040001f6a001f690001e907da00007 [i,j,k] ⋯ e o)
   ·rw[bz h]
    by_cases g:l<i/\i<=k
    ·rw[ca g,bz (zzM2 0x968aa9044ae802807da800051e907da00007 [i,j,l,k] ⋯ e g),ca (zzM3 0x2249aa902907dac0005aa802807dac00051c1f6a001f690001e907da00007 [i,j,k,l] ⋯ e o g)]
     exact hs _ _ (zzM2 0x1150aa14107da4107d07da01000ae802807da800051e907da00007 [i,j,l,k] ⋯ e g) (zzM2 0x2521a41f41f68040029ac0ac1f6a00014707da4007da00007 [j,k,l,i] ⋯ o g)
    ·rw[bz g]
     by_cases t:j=l
     ·rw[ca t];exact b _ (A118 e t)
     ·rw[bz t]
      by_cases m:l<j/\j<=k
      ·exact rwL (ca m) (hs _ _ (zzM2 0xa5241f69041f6b000a01f6b0001eaa40a41f68000147 [l,j,k,i] ⋯ m (A119 e h g m)) (zzM1 0x952a81f41f6904002aa40a41f68000147 [l,j,k] ⋯ m))
      ·exact rwL (bz m) (hs _ _ e (zzM4 0x12492452907da80028a6a02a07da00005107a28a8110707da4007da80007a68007 [l,k,j] ⋯ a o t m))
def StSd{α:Type}(key:α->Int)(l:aq α):Prop:=l.Pairwise λa b=>key a<key b
theorem rC:∀ {a b:aq α},a.Perm b->StSd c a->StSd c b->a=b:=λ{n}=>by
 induction n with
 |nil=>
  intro _ p _ _
  exact p.nil_eq
 |cons x r g=>
  intro b p f d
  cases b with
  |nil=>exact bv p.length_eq (by simp)
  |cons y t=>
   have e:x=y:=by
    rcases e6.mp (p.mem_iff.mp (.head _)) with h |h
    ·exact h
    ·rcases e6.mp (p.mem_iff.mpr (.head _)) with h' |h'
     ·exact h'.symm
     ·exact(A126 ((et.mp f).1 y h') ((et.mp d).1 x h)).elim
   subst e
   rw[g (List.Perm.cons_inv p) (et.mp f).2 (et.mp d).2]
def ins{α:Type}(key:α->Int)(x:α)(l:aq α):aq α:=l.rec [x] λy r ih=>if key x<key y then x::y::r else y::ih
theorem ins_c{a:α->Int}:ins a x (y::r)=if a x<a y then x::y::r else y::ins a x r:=rfl
def isort(key:α->Int)(l:aq α):aq α:=l.rec [] λx q ih=>ins key x ih
theorem vS(a:α->Int)(x:α)(l:aq α):(ins a x l).Perm (x::l):=by
 induction l with
 |nil=>exact .refl _
 |cons y r b=>
  rw[ins_c]
  by_cases c:a x<a y
  ·rw[ca c]
  ·rw[bz c];exact(b.cons y).trans (.swap x y r)
theorem dR(a:α->Int)(l:aq α):(isort a l).Perm l:=by
 induction l with
 |nil=>exact .refl _
 |cons x r b=>exact(vS a x _).trans (b.cons x)
theorem ins_sd{a:α->Int}:∀ {l:aq α},StSd a l->(∀ y∈l,a y≠a x)->StSd a (ins a x l):=λ{l}=>by
 induction l with
 |nil=>exact λq q=>List.pairwise_singleton _ _
 |cons y r f=>
  intro h e
  rw[ins_c]
  have d:=et.mp h
  by_cases b:a x<a y
  ·refine rwL (ca b) (et.mpr ⟨λz c=>?_,h⟩)
   rcases e6.mp c with rfl |c
   ·exact b
   ·exact zzI2 0x15a81f68002a81f690021e907da00087 [a x,a y,a z] ⋯ b (d.1 z c)
  ·refine rwL (bz b) (et.mpr ⟨λz c=>?_,f d.2 λz c=>e z (.tail _ c)⟩)
   rcases e6.mp ((vS a x r).mem_iff.mp c) with rfl |c
   ·exact zzI2 0x516807da400a8a290c41e8a41f68002107 [a z,a y] ⋯ b (e y (.head _))
   ·exact d.1 z c
theorem vQ:∀ {l:aq α},l.Pairwise (λa b=>c a≠c b)->StSd c (isort c l):=λ{l}=>by
 induction l with
 |nil=>exact λq=>.nil
 |cons x r f=>
  intro h
  have d:=et.mp h
  exact ins_sd (f d.2) λy e=>(d.1 y ((dR c r).mem_iff.mp e)).symm
theorem aCn:Slot "tuple" "__lt__" "tuple.__lt__" :=.of (owner:="tuple") (n:="__lt__") (by rw[fx,dx];kernel_rfl) (by decide+kernel) (by decide+kernel) (by decide+kernel)
  (by first |exact .inl (by decide+kernel) |exact .inr (by decide+kernel)) (by rw[ja];kernel_rfl)
theorem lt_mat{K:tf}(c:KMx C K){H:bc d3}(F:A.units<cLine)(X:K.In s.heap)(l:s.heap.get? x=am (sS (.int i t) q r n H))(k:s.heap.get? y=am (sS (.int j u) g f m B))(d:i≠j)(h:Q (decide (i<j)) s):bw C.M A (keyLt' oneType' (.ref x) (.ref y)) Q E s:=by
 have w:ph C.M s.heap (tt (.ref x)) (.ref aF):=(Looks.ld l).andThen .now
 have G:ph C.M s.heap (tt (.ref y)) (.ref aF):=(Looks.ld k).andThen .now
 have D:=lh (M:=C.M) X c.lt
 have e:ph C.M s.heap (tz (.ref x) (.type "tuple")) be:=w.andThen (uP X c.tup)
 have b:ph C.M s.heap (tz (.ref y) (.type "tuple")) be:=G.andThen (uP X c.tup)
 have I:=Looks.of_pure (M:=C.M) (h:=s.heap) (aCn.bind (.ref x))
 rw[keyLt'_oneType,oneLt'_eq]
 refine zzB (wpAny_cRoomFor F ?_)
 have a:bw C.M A (call (.builtin "tuple.__lt__") [.ref x,.ref y]) (λv s'=>v= .bool (decide (i<j))/\s'=s) E s:=by
  refine ju (jz (by decide+kernel:wm "tuple.__lt__" =be) (by exact mh ⋯:si sj "tuple.__lt__" =am Builtin.«tuple.__lt__») (ty (by decide+kernel:px "tuple.__lt__" =am .slot) (by decide+kernel:splitId "tuple.__lt__" =am ("tuple","__lt__")) e (by delta sY;kernel_rfl) ?_))
  show bw _ _ (do
   if !(<-tz (.ref y) (.type "tuple")) then return<-ret .notImplemented
   let o<-Builtin.Tuple.tupleItemsOf (.ref x)
   let p<-Builtin.Tuple.tupleItemsOf (.ref y)
   for (x,y) in o.toList.zip p.toList do
    if !(<-eqBool x y) then
     rule "tuple.compare.by-the-first-pair-that-differs";return<-ret (<-richCompare .Lt x y)
   ret (Builtin.Tuple.tupleCompareSizes .Lt o.size p.size)) _ _ s
  refine zzB (b.here (rwL (bz (by decide)) (zzB (zzB (hE l rfl (zzP (zzB (zzB (hE k rfl (zzP (?_:bw _ _ (forIn [(Value.int i t,Value.int j u),(q,g),(r,f)] _ _ >>=_) _ _ s)))))))))))
  rw[lw]
  exact zzB (zzB (zzB (wpAny_eqBool_int (rwL (ca (by simpa using d)) (zzB (pt (zzB (lt_int (zzB (zzP (zzP (zzP (zzP ⟨rfl,rfl⟩)))))))))))))
 refine zzB ?_
 delta callSpecialIfBound? bindSpecialIfBound?;refine bx (zzB (zzB (zzB (w.here (D.here (zzB (wpAny_askSetting (ifb I (zzB (f4 a ?_ λJ J z=>z))))))))))
 rintro v s' ⟨rfl,rfl⟩
 exact zzP (pX h)
def fR:V->Int | .mat i _ _=>i |_=>0
def zO:V->ec | .mat _ _ _=>be |_=>false
def okSort(vs:aq V):Prop:=(∀ v∈vs,zO v=be)/\(vs.Pairwise λa b=>fR a≠fR b)/\vs.length<64
theorem VRs.map_getD(rs:VRs ρ h us vs):∀ a:aq Nat,(∀ i∈a,i<us.length)->VRs ρ h (a.map λi=>us.getD i Value.none) (a.map λi=>vs.getD i V.none):=λn=>by
 induction n with
 |nil=>
  exact λq=>.nil
 |cons i a f=>
  intro c
  have b:i<vs.length:=by exact rwR rs.length (c i (.head _))
  refine xEA (rs.get (getElem?_eq_getElem b)) λu g k=>?_
  refine .cons ?_ (f λj d=>c j (.tail _ d))
  have e:us.getD i Value.none=u:=by rw[ce,g];rfl
  have l:vs.getD i V.none=vs[i]:=by rw[ce,getElem?_eq_getElem b];rfl
  exact(rwL e (rwL l k):VR ρ h (us.getD i Value.none) (vs.getD i V.none))
theorem vP{a:α->Int}:∀ {vs:aq α},vs.length<2->isort a vs=vs
 | [],_=>rfl
 | [v],_=>rfl
 |_::_::t,h=>bv h (Nat.not_lt.mpr (ou 2 t.length))
inductive MatQ(h:kh):bt->Int->Prop
 |mk {a:d3}{i:Int}{t:Tok}{x2 x3:bt}{n:Nat}{dd:bc d3} (g:h.get? a=am (sS (.int i t) x2 x3 n dd)):MatQ h (.ref a) i
theorem mat_q(r:VR ρ h u v)(b:zO v=be):MatQ h u (fR v):=by
 cases v with
 |mat i j k=>
  obtain⟨a,n,t,c,w,d,rfl,g⟩:=r.inv
  exact .mk g
 |_=>exact bv b Bool.false_ne_true
theorem xC(rs:VRs ρ h us vs)(d:∀ v∈vs,zO v=be)(a:q<vs.length):MatQ h (us.getD q Value.none) (fR (vs.getD q V.none)):=by
 refine xEA (rs.get (getElem?_eq_getElem a)) λu b c=>?_
 exact rwL ce (rwL b (rwL ce (rwL (getElem?_eq_getElem a) (mat_q c (d vs[q] (List.getElem_mem a))))))
theorem ord_f{f:Nat->Int}(c:∀ a b,a<b->b<n->f a≠f b):Ord n (λa b=>decide (f a<f b)) where
 tr:=λx y z g j=>bm (Int.lt_trans (cb g) (cb j))
 tot:=λx y i e d=>(Nat.lt_or_gt_of_ne d).elim (λq=>(Int.lt_or_gt_of_ne (c x y q e)).imp bm bm) λq=>(Int.lt_or_gt_of_ne (c y x q i)).symm.imp bm bm
 asy:=λx y h=>bp (kz.mpr (jd (cb h)))
theorem aH4{vs:aq V}(e:vs.Pairwise λa b=>fR a≠fR b):Ord vs.length (λa b=>decide (fR (vs.getD a V.none)<fR (vs.getD b V.none))):=ord_f λa b c d=>by
  exact rwL ce (rwL ce (rwL (getElem?_eq_getElem d) (rwL (getElem?_eq_getElem (A53 c d)) (List.pairwise_iff_getElem.mp e a b (A53 c d) d c))))
set_option tactic.hygienic true in
theorem uT(S:Sim C H ρ s)(R:ρ[i]? =am l)(hH:H[i]? =am (.list vs))(u:vs.length<64)(kd:∀ {f:kh}{us:aq bt}{Q:SortKind->bo->Prop},2<=us.length->(∀ b o,C.base.heap.get? b=am o->f.get? b=am o)->VRs ρ f us vs->Q κ {s with heap:=f}->bw C.M A (keyKind' us.toArray) Q NoE {s with heap:=f})(au:∀ {f:kh}{us:aq bt}{Q:ec->bo->Prop}{p q:Nat},(∀ b o,C.base.heap.get? b=am o->f.get? b=am o)->VRs ρ f us vs->p<vs.length->q<vs.length->p≠q->Q (J p q) {s with heap:=f}->bw C.M A (keyLt' κ (us.getD p Value.none) (us.getD q Value.none)) Q NoE {s with heap:=f})(O:Ord vs.length J)(sh:vs.length<2->ws=vs)(wl:ws.length=vs.length)(out:∀ p,Pm vs.length p->Sd J p vs.length->(p.toList.map λi=>vs.getD i V.none)=ws)(h:∀ s',Sim C (H.set i (.list ws)) ρ s'->Nx ρ W s ρ s'->P (.done (.ret .none)) s'):bw C.M A (Builtin.«list.sort» ⟨[.ref l.a],[]⟩) P NoE s:=by
 have y:=(List.getElem?_eq_some_iff.mp hH).1
 refine kF (S.objs i _ l hH R) λg1 g2 c n hx rs=>?_
 have g:=rs.length
 have stA:=l6.put (k:=s.toks) S ⟨R,g1,g2,hH,hx,rs⟩ (λ_=> #[]) (vs':=[]) .nil
 rw[list_sort_plain]
 have Y:=hx
 refine zzB (listItems_at Y rfl (zzB (td Y rfl ?_ (by exact rwL ez (A48 g u)) (jw _))))
 obtain⟨e1,K⟩:∃ e1,(s.heap.update l.a (Obj.mapSeq λ_=>(#[]:jf bt))).get? l.a=am (qq "list" #[] e1):=⟨_,q8 Y λ_=> #[]⟩
 refine zzB (wj K rfl (zzB (wpAny_newTuple (zzB (vi (bx ?_) (jw _))) (by rw[ez];simp;exact A48 g u))))
 let f:kh:=((s.heap.update l.a (Obj.mapSeq λ_=>(#[]:jf bt))).push (qq "tuple" c.toList.toArray 0)).push (qq "list" #[] 0)
 have X:∀ b o,(s.heap.update l.a (Obj.mapSeq λ_=>(#[]:jf bt))).get? b=am o->f.get? b=am o:=λb o e=>Heap.get?_push_of_some _ (Heap.get?_push_of_some _ e)
 have T:Sim C (H.set i (.list [])) ρ {s with heap:=f}:=stA.1.extS X
 have N3:Nx ρ W s ρ {s with heap:=f}:=(stA.2 W).trans (.ext X)
 have x:=X _ _ K
 refine(?_:bw C.M A _ P NoE {s with heap:=f})
 dsimp only
 have v:=rs.mono (cc _) N3.imm
 have N:∀ (out:jf bt),VRs ρ f out.toList ws->out.size<=ur/\P (.done (.ret .none)) {s with heap:=f.update l.a (Obj.mapSeq λ_=>out)}:=by
  refine λout ro=>(kF (T.objs i _ l (fp y) R) λk1 k2 az n3 U L=>?_)
  have st:=l6.put (k:=s.toks) T ⟨R,k1,k2,(fp y),U,L⟩ (λ_=>out) ro
  refine⟨by rw[ez];exact zzM3 0x4950820820f69028a811eaa411c283d07da00007 [vs.length,out.size,ws.length] ⋯ u ro.length wl,h _ ?_ (N3.trans (st.2 W))⟩
  have:=st.1
  rw[sO]at this
  exact this
 by_cases F:c.size<2
 ·rw[ca F,ca F]
  refine zzB (zzP ?_)
  rw[StateT.run_pure]
  refine zzB (zzP ?_)
  dsimp only
  refine xA (N c (by exact rwL (sh (g▸F)) v)) λf1 f2=>zzB (wj x rfl ?_)
  rw[(by
   intro c
   apply Array.toList_inj.mp
   exact rwL Array.toList_map (rwL Array.toList_zip (List.map_snd_zip (Nat.le_refl _))):∀(c:jf bt),(arrOf (SortSt.mk' general' (c.zip c) #[] 7 ba)).map (·.2)=c)]
  refine zzB (td x rfl ?_ (jw _) (pi f1))
  simp only[bne_self_eq_false,jv,pg]
  exact zzP f2
 ·rw[bz F,bz F]
  have hv2:2<=c.toList.length:=by simp;exact zzM1 0x5a02f40a02f41f68000107 [c.size] ⋯ F
  refine rwL (by simp:c=c.toList.toArray) (zzB (kd hv2 T.keep v ?_))
  have ar:SortSt.mk' κ (c.toList.toArray.zip c.toList.toArray) #[] 7 ba=kas_st κ (u6 c.toList) (List.toArray (List.range c.toList.length)):=by
   have e:=kas_range (u6 c.toList)
   rw[pairsOf_size]at e
   show SortSt.mk' κ (u6 c.toList) #[] 7 ba=SortSt.mk' κ ((List.toArray (List.range c.toList.length)).map (kas_item (u6 c.toList))) #[] 7 ba
   rw[e]
  have t:c.toList.length=vs.length:=by simp [g]
  have as:(kas_sort c.toList.length).kasWp (kas_cmp C.prog C.w A κ (u6 c.toList)) (λp s'=>(Pm vs.length p/\Sd J p vs.length)/\s'= {s with heap:=f}) {s with heap:=f}:=by
   rw[t,<-kas_ask_eq]
   exact PW.wp (I:=λs'=>s'= {s with heap:=f}) (λi j D s' hi hj ax B hD=>(rwL B (au T.keep v hi hj ax (hD _ rfl)))) (λp s' hp B=>⟨hp,B⟩) ((by
    delta kas_sort
    refine PW.bind ((aGj O ⟨Array.Perm.refl _⟩ (zzM2 0x96907d029a011e80bd007 [c.toList.length,vs.length] ⋯ hv2 t)).mono λr z=>xAAA z λa b d e=>?_)
    split
    ·rename_i h
     exact rwL (A123 b) (aGx O _ r.1 a e (zzM1 0xa544a68a41a0006907da00007 [r.fst,vs.length] ⋯ h))
    ·rename_i h
     exact⟨a,(rwR (A125 d h) e)⟩)) _ rfl
  have aw:=kas_runs (E:=NoE) (Q:=λ_ m s'=>∃ p:jf Nat,p.size=c.toList.length/\arrOf m=p.map (kas_item (u6 c.toList))/\failedOf m=ba/\(Pm vs.length p/\Sd J p vs.length)/\s'= {s with heap:=f})
   hv2 (by exact rwL t u) (λp' m s' a1 a2 a3 a4=>⟨p',a1,a2,a3,a4⟩) as
  refine zzB (f4 (rwL ar aw) ?_ λ_ _ e=>e)
  rintro ⟨⟨⟩,m⟩ s' ⟨p,hp,Z,hf,⟨hP,hS⟩,rfl⟩
  have G:(arrOf m).map (·.2)=List.toArray (p.toList.map λi=>c.toList.getD i Value.none):=by
   apply Array.toList_inj.mp
   rw[Z,Array.map_map,Array.toList_map]
   exact ot λi _=>by show(kas_item (u6 c.toList) i).2=_;rw[kas_item_eq]
  have ay:∀ i∈p.toList,i<c.toList.length:=λi hi=>by
   rw[t];simpa using ((by simpa using hP.pm.toList:p.toList.Perm (List.range vs.length)).mem_iff.mp hi)
  refine xA (N (List.toArray (p.toList.map λi=>c.toList.getD i Value.none)) (by
   have:=v.map_getD p.toList ay
   rw[out p hP hS]at this
   simpa using this)) λf1 f2=>?_
  refine zzB (wj x rfl (rwL G (zzB (td x rfl ?_ (jw _) (pi f1)))))
  rw[hf]
  simp only[bne_self_eq_false,jv,pg]
  exact zzP f2
theorem aBc{K:tf}(B:KMx C K)(t:A.units<cLine)(S:Sim C H ρ s)(J:ρ[i]? =am l)(L:H[i]? =am (.list vs))(u:okSort vs)(h:∀ s',Sim C (H.set i (.list (isort fR vs))) ρ s'->Nx ρ W s ρ s'->P (.done (.ret .none)) s'):bw C.M A (Builtin.«list.sort» ⟨[.ref l.a],[]⟩) P NoE s:=xAA u λhm y v=>have O:=aH4 y
 uT (κ:=oneType') S J L v (λhv2 _ rs q=>kas_kind hv2 ((λu t=>by
   refine xE (kM t) λq x=>?_
   have m:=xC rs hm (rs.length▸(List.getElem?_eq_some_iff.mp x).1:q<vs.length)
   rw[ce,x]at m
   cases m with
   |mk g=>exact(Looks.ld g).andThen .now)) (by decide) (by decide) q)
  (λ{h3 D Q p q} G rs f d c n=>by
   have b:fR (vs.getD p V.none)≠fR (vs.getD q V.none):=λe=>(O.tot p q f d c).elim (λz=>bv e (Int.ne_of_lt (cb z))) λz=>bv e.symm (Int.ne_of_lt (cb z))
   have o:=xC rs hm f
   have r:=xC rs hm d
   revert o r b n
   generalize D.getD p Value.none=Y
   generalize D.getD q Value.none=X
   generalize fR (vs.getD p V.none)=Z
   generalize fR (vs.getD q V.none)=U
   intro n b o r
   cases o with
   |mk R=>cases r with
    |mk N=>exact lt_mat B t (B.toK.mem.keeps G) R N b n) O vP (dR fR vs).length_eq (λp w T=>(by
     refine rC ?_ ?_ (vQ y)
     ·have k:=by simpa using w.pm.toList
      have E:(List.range vs.length).map (λi=>vs.getD i V.none)=vs:=by
       refine uR (by simp) λi k E=>?_
       simp at k
       simp [k]
      exact (E▸(k.map (λi=>vs.getD i V.none))).trans (dR fR vs).symm
     ·delta StSd
      rw[r7,List.pairwise_iff_getElem]
      intro i j f d c
      simp only[Array.length_toList]at f d
      have:=T i j c (A118 d w.sz)
      have F:gt p i=p[i]:=by delta gt;simp [Array.getD,f]
      have I:gt p j=p[j]:=by delta gt;simp [Array.getD,d]
      rw[F,I]at this
      simpa using this)) h
def aF9(f:EF):EF:=λlo H Q=>f lo H λa H1=>Lf a.rf λi=>Lf (H1[i]?.bind MO.own) λvs=>okSort vs/\Q .none (H1.set i (.list (isort fR vs)))
theorem EV.sort{K:tf}(E:KMx C K){b:Pos}(v:EV C (r+1) env o f)(I:fM env o "sort" b pos []):EV C (r+1) env (.Call (.Attribute o "sort" b) [] [] pos) (aF9 f):=λA s ρ H lo Q c S F q=>oK v I PySem.F.slot_list_sort PySem.F.type_list_sort c S F q (λv H1 q=>q.elim λi e q=>q.elim λvs D M=>⟨i,vs,e,kO D⟩) λ{s1 t l i vs J n H1} B m O q=>by
  refine q.elim λi' e q=>cyS e λzq=>?_;subst zq
  refine q.elim λws G q=>?_
  obtain rfl:=O.same G
  refine om rfl cQ (wmN (j6 EVs.nil ⟨.inl rfl,λM=>rfl⟩ c B (F.nx m) (Q:=λvs H'=>vs= []/\H'=H1) ⟨rfl,rfl⟩) λa s2 p=>?_)
  obtain⟨ps,L⟩:=a
  obtain⟨d,S2,k,rs,u,y⟩:=p
  subst d
  subst u y
  cases rs
  exact⟨S2.keep,xEE (jL S2 (aR k.pre O.g) O.h) λxs n j=>fu PyProof.Rows.slot_list_sort ⟨_,j.x,rfl⟩ PyProof.Rows.entry_list_sort (aBc E (zzM1 0x149d6cf41f41f68000007ea0f41f69001a3ea00007 [A.units,r] ⋯ c.2.2:A.units+1<9900) S2 j.g O.h q.1 λs3 z w=>⟨.none,rfl,z,(m.trans k).trans w,.none,q.2⟩) (PyProof.Rows.args_list_sort _)⟩
theorem SV.doc(a:qW env=false)(hs:sb (.Constant (.str x) k p) ba pos.line env=pure false):SV C r env (.Expr (.Constant (.str x) k p) pos) (sK .next):=SV.expr EV.str a hs
theorem OpR.iadd:OpR C r (inplaceOp .Add) nR:=OpR.i2 λq q k=>PySem.AutoIntOps.iadd_0 (k _ _ (.int _ _))
theorem Room.le{a b:Nat}(h:ble a b=be)(c:Room b A):Room a A:=by
 have:=iH h
 exact xAA c λh1 d e=>⟨h1,zzM2 0xaffd5f3da0afaa00057cf692bea80007a68007 [a,b,A.depth] ⋯ this d,zzM2 0x2bfffffffffc7ea0f68068faa0001fa83da41a3ea80007a68007 [a,b,A.units] ⋯ this e⟩
theorem CV.lift{a b:Nat}(h:CV C a f g)(q:ble a b=be):CV C b f g:=⟨h.keep,λhr S rs e=>h.call (hr.le q) S rs e⟩
noncomputable abbrev AnyT:=∀ {α:Type} (as:jf α),(α->ec)->optParam Nat 0->optParam Nat as.size->ec
def anyL:AnyT:=λ{α} as p i j=>match beq i 0,beq j as.size with
 |true,be=>as.toList.any p
 |_,_=>as.any p i j
theorem holdT{P:Prop}(_:P):qm:=trivial
set_option maxHeartbeats 1000000 in
@[irreducible] noncomputable def tnG: {G:AnyT->wn // PySem.W.Fast.tw4202317264376624991=G @Array.any.{0}}:=let G:AnyT->wn:=_
 let u:qm:=holdT (P:=PySem.W.Fast.tw4202317264376624991=G @Array.any.{0}) (by
  delta PySem.W.Fast.tw4202317264376624991
  generalize @Array.any.{0}=A
  exact rfl)
 ⟨G,@Eq.refl wn PySem.W.Fast.tw4202317264376624991⟩
open PySem.Sem (wp)
noncomputable abbrev Ev(α:Type):=Pos->BT->Nat->Nat->bc (Except bt α×Pos×BT×Nat×Nat)
noncomputable abbrev Cf:=Ctx->Pos->BT->Nat->Nat->bc (qZ×BT×Nat×Nat)
def evS(cf:Cf)(S:Setting)(Γ:Ctx)(t:Sem α):Ev α:=@Sem.rec α (λb=>Ev α)
  (λa p T n k=>am (.ok a,p,T,n,k))
  (λe p T n k=>am (.error e,p,T,n,k))
  (λb b b b b=>ba)
  (λb b b b b=>ba)
  (λb b ih p T n k=>ih () p T n k)
  (λq b ih b T n k=>ih () q T n k)
  (λa b b ih p T n k=>bif blt a n then(T.get a).bind λo=>(alive o).bind λo'=>ih o' p T n k else ba)
  (λa b f b ih p T n k=>bif blt a n then(T.get a).bind λo=>(alive o).bind λb=>ih () p (T.set a f) n k else ba)
  (λo b ih p T n k=>bif ((T.ins n o).get n).isSome then ih n p (T.ins n o) (n+1) k else ba)
  (λa b ih p T n k=>bif blt a n then(T.get a).bind λo=>ih (alive o) p T n k else ih ba p T n k)
  (λb b ih p T n k=>ih () p T n k)
  (λb b b b b b b=>ba)
  (λb ih p T n k=>ih k p T n (k+1))
  (λb ih p T n k=>ih S p T n k)
  (λb b b b b b b b=>ba)
  (λb b b b b b b b=>ba)
  (λc h b b b ih p T n k=>(cf (Γ.enter c h p) p T n k).bind λy=>ih y.1 p y.2.1 y.2.2.1 y.2.2.2)
  (λown b ih p T n k=>ih (if own then Γ.own else Γ.handled) p T n k)
  (λb b b b b b b=>ba)
  (λb b b b b b b=>ba)
  (λb b b b b b b b b=>ba)
  (λb b b b b b b b b=>ba)
  (λb ih p T n k=>ih ((Γ.code,p)::Γ.below) p T n k)
  (λb b b b b b b=>ba)
  (λb ih p T n k=>ih 0 p T n k)
  (λb b b b b b b b b b=>ba) t
section
variable(life:Life)(gens:jf pH)(drawn:Drawn)(os:ua)
def ab(T:BT)(n k:Nat):bo:=⟨ub T n life,gens,drawn,k,os⟩
end
def Ph(life:Life)(gens:jf pH)(drawn:Drawn)(os:ua){α:Type}(Q:α->Pos->bo->Prop)(E:bt->Pos->bo->Prop):bc (Except bt α×Pos×BT×Nat×Nat)->Prop
 |some (.ok a,p,T,n,k)=>Q a p (ab life gens drawn os T n k)
 |some (.error e,p,T,n,k)=>E e p (ab life gens drawn os T n k)
 |none=>f7
def PhC(life:Life)(gens:jf pH)(drawn:Drawn)(os:ua)(R:qZ->bo->Prop):bc (qZ×BT×Nat×Nat)->Prop
 |some (r,T,n,k)=>R r (ab life gens drawn os T n k)
 |none=>f7
theorem ob{β a:Type}{P:bc a->Prop}(h0: ¬P ba){o:bc β}{f:β->bc a}(h:P (o.bind f)):∃ y,o=am y/\P (f y):=by
 cases o with
 |none=>exact bv h h0
 |some y=>exact⟨y,rfl,h⟩
theorem obb{a:Type}{P:bc a->Prop}(h0: ¬P ba){b:ec}{x:bc a}(h:P (bif b then x else ba)):b=be/\P x:=by
 cases b with
 |false=>exact bv h h0
 |true=>exact⟨rfl,h⟩
theorem aF4(M:wg)(life:Life)(gens:jf pH)(drawn:Drawn)(os:ua)(s:∀ {d p T n k R},PhC life gens drawn os R (u d p T n k)->wpCode M d R p (ab life gens drawn os T n k))(t:Sem α):∀ {Q:α->Pos->bo->Prop}{E:bt->Pos->bo->Prop}{p T n k},Ph life gens drawn os Q E (evS u ⟨M.prog,M.w.params⟩ d t p T n k)->wp M d t Q E p (ab life gens drawn os T n k):=by
 induction t with
 |pure a=>intro Q E p T n k h;exact h
 |raise e=>intro Q E p T n k h;exact h
 |unsupported |finish |register |choose |os |genState |newGen |resume | «yield» |fork |await=>intro Q E p T n k h;exact h.elim
 |rule _ k b=>intro Q E p T n k h;exact b () h
 | «at» q k b=>intro Q E p T n k h;exact b () h
 |point _ k b=>intro Q E p T n k h;exact b () h
 |ask k b=>intro Q E p T n k h;exact b _ h
 |thread k b=>intro Q E p T n k h;exact b _ h
 |stack k b=>intro Q E p T n k h;exact b _ h
 |handled own k b=>intro Q E p T n k h;exact b _ h
 |fresh k b=>intro Q E p T n k h;exact b _ h
 |load a m k b=>
  intro Q E p T n j h
  exact xA (obb id h) λhb h=>xEA (ob id h) λo i h=>xEA (ob id h) λo' r h=>⟨o',(abs_get (iH hb) i).trans r,b o' h⟩
 |update a m f k b=>
  intro Q E p T n j h
  exact xA (obb id h) λhb h=>xEA (ob id h) λo i h=>xEA (ob id h) λo' r h=>⟨by show((ub T n life).get? a).isSome=be;rw[abs_get (iH hb) i,r];rfl,(rwR (absHeap_set i) (b () h))⟩
 |alloc o k b=>
  intro Q E p T n j h
  refine xA (obb id h) λhb h=>?_
  show wp M d (k (ub T n life).objs.size) _ _ p {ab life gens drawn os T n j with heap:=(ub T n life).push o}
  rw[absHeap_size,<-absHeap_ins hb]
  exact (b n h)
 |loadIfAlive a k b=>
  intro Q E p T n j h
  show wp M d (k ((ub T n life).get? a)) _ _ p _
  revert h
  refine(?_:Ph life gens drawn os Q E (bif blt a n then _ else _)->_)
  cases hb:blt a n with
  |false=>
   exact λh=>(rwL (abs_get_none (λq=>by cases ((show blt a n=be from Nat.ble_eq_true_of_le q)▸hb))) (b _ h))
  |true=>
   exact λh=>(xEA (ob id h) λo i h=>rwL (abs_get (iH hb) i) (b _ h))
 |call c x g l k b=>
  intro Q E p T n j h
  exact s (xEA (ob id h) λy v h=>rwL v (b _ h))
def evC(den:Code->Sem Fin)(S:Setting)(f:Nat):Cf:=@Nat.rec (λq=>Cf) (λq q q q q=>ba) (λq rec Γ p T n k=>match evS rec S Γ (den Γ.code) p T n k with
  |some (.ok (.done fl),_,T',n',k')=>am ((Except.ok fl:qZ),T',n',k')
  |some (.ok (.again c),p',T',n',k')=>bif c.quiet then rec (Γ.goto c) p' T' n' k' else ba
  |some (.error e,_,T',n',k')=>am ((Except.error e:qZ),T',n',k')
  |none=>ba) f
theorem xT(M:wg)(life:Life)(gens:jf pH)(drawn:Drawn)(os:ua):∀ (f:Nat){a R p T n k},PhC life gens drawn os R (evC M.den ⟨M.prog,M.w.params⟩ f a p T n k)->wpCode M a R p (ab life gens drawn os T n k):=λl=>by
 induction l with
 |zero=>
  intro _ _ _ _ _ _ h
  exact h.elim
 |succ f r=>
  intro a R p T n k h
  rw[wpCode_iff_wp]
  refine aF4 M life gens drawn os (λhq=>r hq) (M.den a.code) ?_
  revert h
  show PhC life gens drawn os R (match evS (evC M.den ⟨M.prog,M.w.params⟩ f) ⟨M.prog,M.w.params⟩ a (M.den a.code) p T n k with
   |some (.ok (.done fl),_,d,g,b)=>am ((Except.ok fl:qZ),d,g,b)
   |some (.ok (.again c),s,d,g,b)=>bif c.quiet then evC M.den ⟨M.prog,M.w.params⟩ f (a.goto c) s d g b else ba
   |some (.error e,_,d,g,b)=>am ((Except.error e:qZ),d,g,b)
   |none=>ba)->_
  cases evS (evC M.den ⟨M.prog,M.w.params⟩ f) ⟨M.prog,M.w.params⟩ a (M.den a.code) p T n k with
  |none=>exact False.elim
  |some y=>
   obtain⟨x,j,o,m,q⟩:=y
   cases x with
   |error e=>exact id
   |ok i=>cases i with
    |done fl=>exact id
    |again c=>
     intro h
     revert h
     exact λh=>(xA (obb id h) λhq h=>⟨hq,r h⟩)
def setDoc(D:Str):jg->jg
 | .ClassDef n b k (.Expr (.Constant (.str _) x q) q'::rest) d t s ts bi st p=>.ClassDef n b k (.Expr (.Constant (.str D) x q) q'::rest) d t s ts bi st p
 |x=>x
def setAt(D:Str):aq jg->aq jg
 |a::b::c::d::e::f::r=>a::b::c::d::e::setDoc D f::r
 |l=>l
def aG6(p:pj)(D:Str):pj:= {p with main:= {p.main with body:=setAt D p.main.body}}
def tn:wn:=tnG.1 @anyL
theorem tn_eq:Builtin.«type.__new__»=tn:=(PySem.W.Fast.te4202317264376624991).trans (tnG.2.trans (b3 tnG.1 (by
 funext α a p i j
 delta anyL
 cases b:beq i 0 with
 |false=>rfl
 |true=>cases c:beq j a.size with
  |false=>rfl
  |true=>
   cases Nat.eq_of_beq_eq_true b
   cases Nat.eq_of_beq_eq_true c
   exact Array.any_toList.symm)))
def tbl(id:qp):bc wn:=match PySem.W.S.eqLit (PySem.code "type.__new__") id with
 |true=>am tn
 |false=>PySem.W.Fast.tw14364793385576792824 id
def den:Code->Sem Fin:=PySem.W.Fast.tw11892475500146522536 tbl
def btOf(l:aq Obj):BT:=(l.zipIdx).foldl (λt x=>t.ins x.2 x.1) .nil
def bt0(P:ft):BT:=btOf [vI P,boot_o_1 P,wt P,boot_o_3 P,wu P,boot_o_5 P,boot_o_6 P,boot_o_7 P,boot_o_8 P,boot_o_9 P,boot_o_10 P]
def Γ0:Ctx:=⟨.builtin "claim.caller" {},ba,ba,[],ba⟩
def yV(p:pj)(w:kb):=evS (evC den ⟨p,w.params⟩ 3000) ⟨p,w.params⟩ Γ0 (qj p).cur default (bt0 w.params) 11 pz
def Jn(t:Thread):Step->Prop
 | .halt (.done _) _=>through t=be
 |_=>qm
theorem Jn.ite{a b:Step}(d:Jn t a)(c:Jn t b):Jn t (if x=be then a else b):=by
 cases x with
 |true=>exact d
 |false=>exact c
theorem Jn.itp{c:Prop}[Decidable c]{a b:Step}(e:Jn t a)(d:Jn t b):Jn t (if c then a else b):=by
 by_cases h:c
 ·rw[ca h];exact e
 ·rw[bz h];exact d
theorem stepJ{den:Code->Sem Fin}:Jn t (step den p w s t):=by
 obtain⟨heap,b,i,toks,os⟩:=s
 obtain⟨cur,code,pos,stack⟩:=t
 cases cur with
 |pure a=>cases a with
  |again c=>trivial
  |done f=>cases stack with
   |nil=>exact Jn.ite trivial rfl
   |cons j d=>cases j<;>trivial
 |raise e=>cases stack with
  |nil=>exact Jn.ite trivial trivial
  |cons j d=>cases j<;>trivial
 |unsupported _=>trivial
 |finish e=>exact Jn.ite trivial trivial
 |rule _ k=>trivial
 | «at» p k=>trivial
 |load a _ k=>
  delta step;dsimp only
  cases heap.get? a<;>trivial
 |update a _ f k=>exact Jn.ite trivial trivial
 |alloc o k=>trivial
 |loadIfAlive a k=>trivial
 |point _ k=>trivial
 |register _ _=>trivial
 |fresh k=>trivial
 |ask k=>trivial
 |choose m n k=>exact Jn.itp trivial trivial
 |os q _ k=>trivial
 |call c h g l k=>trivial
 |handled own k=>trivial
 |newGen c k=>trivial
 |genState g k=>
  delta step;dsimp only
  cases b[g]? <;>trivial
 |resume g r l k=>
  delta step;dsimp only
  cases b[g]? with
  |none=>trivial
  |some x=>cases x with
   |fresh c=>cases r with
    |send v=>cases v<;>trivial
    |throw e=>trivial
   |_=>trivial
 |yield v u l y=>
  delta step;dsimp only
  cases splitAtGen stack<;>trivial
 |stack k=>trivial
 |fork _ _=>trivial
 |thread k=>trivial
 |await _ _ _ _ _=>trivial
theorem uO(E:s.asleep)(y:c.gens= #[])(h:Sem.wp (ir p w) Γ0 (qj p).cur (λfin I s'=>fin= .done (.ret .none)/\s'=c) (λI I I=>f7) default s):∃ n t,schedN (wf sj) p w n (.single s (qj p))= .running (.single c t)/\through t=be:=by
 have h':Sem.wp (ir p w) ⟨.builtin "claim.caller" {},ba,ba,[],ba⟩ (qj p).cur
   (Sem.finPost (ir p w) ⟨.builtin "claim.caller" {},ba,ba,[],ba⟩ λr s'=>(r= .ok (.ret .none)/\s'=c)/\leftWithCleanup s'.gens=false)
   (λe I s'=>((.error e:qZ)= .ok (.ret .none)/\s'=c)/\leftWithCleanup s'.gens=false) default s:=by
  refine Sem.wp_mono _ _ _ ?_ (λI I I x=>x.elim) _ _ h
  rintro fin q s' ⟨rfl,rfl⟩
  exact⟨⟨rfl,rfl⟩,by rw[y];decide+kernel⟩
 obtain⟨n,r,s',G,rfl,rfl⟩:=(wp_iff_halts _ _ _ _).mp h'
 refine c6 (runNI_real (wf sj) p w G (outcomeOf_ends _)) λs'' z H B=>rwR (Shared.eq_of_forget_eq H y) (jC ((by
  intro den p w f s' n
  induction n with
  |zero=>intro s t h;cases h
  |succ n D=>
   intro s t h
   have u:=stepJ (den:=den) (p:=p) (w:=w) (s:=s) (t:=t)
   have j:=step_halt_same den p w s s' t (.done f)
   replace h:(match step den p w s t with | .go s' d=>runN den p w n s' d | .halt o s'=>.halted o s')=Run.halted (.done f) s':=h
   have g:∀ m,runN den p w (m+1) s t=(match step den p w s t with | .go s' d=>runN den p w m s' d | .halt o s'=>.halted o s'):=λm=>rfl
   revert h u j g
   cases step den p w s t with
   |go b i=>
    exact λhj j h g=>(jC (D b i h) λm d A l=>⟨m+1,d,(g m).trans A,l⟩)
   |halt o b=>
    intro u j h g
    cases h
    exact⟨0,t,b3 (Run.running · t) (j rfl).symm,u⟩:∀{den:Code->Sem Fin}{p:pj}{w:kb}{f:wc}{s':bo}(n:Nat),∀ (s:bo) (t:Thread),runN den p w n s t= .halted (.done f) s'-> ∃ m d,runN den p w m s t= .running s' d/\through d=be) n s (qj p) z) λm d g l=>?_)
 have v:∀ k b,runN (wf sj) p w k s (qj p)≠ .halted (.unsupported "lifetime:generator-with-cleanup-left-suspended") b:=by
  intro k b F
  have a:=runN_mono (wf sj) p w n k s (qj p) _ _ z
  rw[wa,(runN_mono (wf sj) p w k n s (qj p) _ b F)]at a
  injection a with C _
  cases C
 exact⟨m,d,(schedN_eq_runN (wf sj) p w s (qj p) E ⟨B,v⟩ m).trans (b3 Run.lift g),l⟩
def docS(p:pj):Str:=match (p.main.body.drop 5).head? with
 |some (PySem.Stmt.ClassDef _ _ _ body _ _ _ _ _ _ _)=>(docOf body).getD ⟨#[]⟩
 |_=>⟨#[]⟩
noncomputable abbrev pw:pj:=PySem.Challenge.pw_dm0053_08
def docL: {l:aq Char // docS pw=⟨(l.map Char.toNat).toArray⟩}:=⟨_,Fast.ofString_ofList _⟩
def docD:Str:=⟨(docL.1.map Char.toNat).toArray⟩
def pR:pj:=aG6 pw docD
theorem p_eq:pw=pR:=by
 unfold pR docD
 rw[<-docL.2]
 kernel_rfl
def stA(i:Nat):jg:=(pw.main.body.drop i).headD (.Pass ⟨0,0,0,0⟩)
def inCls:jg->aq jg
 | .ClassDef _ _ _ body _ _ _ _ _ _ _=>body
 |_=>[]
def stB(i j:Nat):jg:=((inCls (stA i)).drop j).headD (.Pass ⟨0,0,0,0⟩)
def fPar:jg->Arguments
 | .FunctionDef _ a _ _ _ _ _ _ _ _=>a
 |_=>⟨[],[],ba,[],[],ba,[]⟩
def cK:jg->aq jg
 | .FunctionDef _ _ b _ _ _ _ _ _ _=>b
 |_=>[]
def fSco:jg->rq
 | .FunctionDef _ _ _ _ _ _ s _ _ _=>s
 |_=>default
def v8(s:jg):Str:=(docOf (cK s)).getD ⟨#[]⟩
noncomputable abbrev kE(P:ft)(n:Str)(t:Nat)(v:bt):we:=⟨PyData.keyHash P n,.str n t,v⟩
def cOx(x y:Nat->bt)(z:Nat)(n q:Str)(t l a f r e:Nat):Obj:=⟨.type "code",ba,.fields #[.str n t,.str q (t+1),.str "/claim/cut.py" (t+2),.int l 0,.int a 0,.int 0 0,.int 0 0,.int f 0,.ref r,.bool be,.int 181 0,.ref (r+1),.none,x r,y r,.ref (r+z),.int e 0,.int l 0,.str "/claim/cut.py" (e+1)],#[]⟩
def cO:Str->Str->Nat->Nat->Nat->Nat->Nat->Nat->Obj:=cOx (λr=>.ref (r+2)) (λr=>.ref (r+3)) 4
def cO0:Str->Str->Nat->Nat->Nat->Nat->Nat->Nat->Obj:=cOx (λq=>.none) (λq=>.none) 2
def fOx(m:bt)(n q:Str)(s:jg)(d doc:bt)(an:bc Nat)(c:Nat):Obj:=⟨.type "function",ba,.func {name:=n,qualname:=q,params:=fPar s,body:=.stmts (cK s),scope:=fSco s,globals:=3,closure:=[],defaults:=d,kwdefaults:=.none,doc:=doc,pyModule:=m,annotations:=an,code:=.ref c,closureTuple:=.none,builtins:=0},#[]⟩
def fO:Str->Str->jg->bt->bt->bc Nat->Nat->Obj:=fOx (.str "cpy313.difflib" 194)
def o3(P:ft):Obj:=⟨(.type "dict"),ba,(Data.dict #[kE P "__name__" 165 (.str "law_dm0053_08" 592),kE P "__doc__" 166 .none,kE P "__package__" 167 .none,kE P "__loader__" 168 (.builtin "__main__.__loader__#opaque"),kE P "__spec__" 169 .none,kE P "__annotations__" 170 (.ref 6),kE P "__builtins__" 171 (.ref 4),kE P "__file__" 173 (.str "/claim/cut.py" 172),kE P "__cached__" 174 .none,kE P "_wall" 193 (.ref 21),kE P "_tuplegetter" 252 (.ref 60),kE P "Match" 380 (.ref 135),kE P "_calculate_ratio" 388 (.ref 145),kE P "SequenceMatcher" 591 (.ref 242),kE P "_law_versions" 599 (.ref 251),kE P "_law_turned" 605 (.ref 256),kE P "_law_changes" 611 (.ref 261),kE P "_law_patched" 628 (.ref 268),kE P "_law_fold" 634 (.ref 273),kE P "_law_carried" 649 (.ref 280),kE P "law" 655 (.ref 285)] 21),#[]⟩
def o81(P:ft):Obj:=cO "__new__" "Match.__new__" 274 29 4 3 76 281
def o82(P:ft):Obj:=fO "__new__" "Match.__new__" (stB 3 4) .none (.str "Create new instance of Match(a, b, size)" 283) ba 81
def o88(P:ft):Obj:=cO "_make" "Match._make" 285 33 2 3 83 291
def o89(P:ft):Obj:=fO "_make" "Match._make" (stB 3 5) .none (.str "Make a new Match object from a sequence or iterable" 293) (am 92) 88
def o91(P:ft):Obj:=⟨(.type "classmethod"),(am 90),(Data.fields #[(.ref 89),(.bool false)]),#[]⟩
def o134(P:ft):Obj:=⟨(.type "dict"),ba,(Data.dict #[kE P "__module__" 260 (.str "cpy313.difflib" 194),kE P "__firstlineno__" 264 (.int 23 263),kE P "__doc__" 266 (.str "Match(a, b, size)" 265),kE P "__slots__" 268 (.ref 73),kE P "_fields" 272 (.ref 74),kE P "_field_defaults" 273 (.ref 75),kE P "__new__" 284 (.ref 136),kE P "_make" 306 (.ref 91),kE P "_replace" 317 (.ref 100),kE P "__replace__" 318 (.ref 100),kE P "__repr__" 326 (.ref 107),kE P "_asdict" 333 (.ref 114),kE P "__getnewargs__" 341 (.ref 121),kE P "__match_args__" 345 (.ref 122),kE P "a" 355 (.ref 124),kE P "b" 365 (.ref 127),kE P "size" 375 (.ref 130),kE P "__static_attributes__" 376 (.ref 132)] 2),#[]⟩
def o135(P:ft):Obj:=⟨(.type "type"),ba,(Data.cls {name:="Match",bases:=[(.type "tuple")],mro:=[(.ref 135),(.type "tuple"),(.type "object")],ns:=134,qualname:="Match",hasDict:=false,slotNames:=[],subclasses:=[],abstract:=false,collection:=ba,hasDel:=false}),#[am (.ref 65),ba,am (.str "Match" 253),am (.str "Match" 261),am .none,am (.bool false)]⟩
def o136(P:ft):Obj:=⟨(.type "staticmethod"),ba,(Data.fields #[(.ref 82)]),#[]⟩
def o153(P:ft):Obj:=⟨(.type "tuple"),ba,(Data.seq #[.none,(.str "" 404),(.str "" 405),(.bool be)] 0),#[]⟩
def o159(P:ft):Obj:=cO "__init__" "SequenceMatcher.__init__" 406 145 5 3 154 414
def o160(P:ft):Obj:=fO "__init__" "SequenceMatcher.__init__" (stB 5 1) (.ref 153) (.str (v8 (stB 5 1)) 416) ba 159
def o166(P:ft):Obj:=cO "set_seqs" "SequenceMatcher.set_seqs" 418 173 3 3 161 424
def o167(P:ft):Obj:=fO "set_seqs" "SequenceMatcher.set_seqs" (stB 5 2) .none (.str (v8 (stB 5 2)) 426) ba 166
def o173(P:ft):Obj:=cO "set_seq1" "SequenceMatcher.set_seq1" 428 184 2 3 168 433
def o174(P:ft):Obj:=fO "set_seq1" "SequenceMatcher.set_seq1" (stB 5 3) .none (.str (v8 (stB 5 3)) 435) ba 173
def o180(P:ft):Obj:=cO "set_seq2" "SequenceMatcher.set_seq2" 437 209 2 3 175 442
def o181(P:ft):Obj:=fO "set_seq2" "SequenceMatcher.set_seq2" (stB 5 4) .none (.str (v8 (stB 5 4)) 444) ba 180
def o187(P:ft):Obj:=cO "__chain_b" "SequenceMatcher.__chain_b" 446 236 1 3 182 461
def o188(P:ft):Obj:=fO "__chain_b" "SequenceMatcher.__chain_b" (stB 5 5) .none .none ba 187
def o189(P:ft):Obj:=⟨(.type "tuple"),ba,(Data.seq #[(.int 0 464),.none,(.int 0 465),.none] 0),#[]⟩
def o195(P:ft):Obj:=cO "find_longest_match" "SequenceMatcher.find_longest_match" 466 260 5 3 190 488
def o196(P:ft):Obj:=fO "find_longest_match" "SequenceMatcher.find_longest_match" (stB 5 6) (.ref 189) (.str (v8 (stB 5 6)) 490) ba 195
def o202(P:ft):Obj:=cO "get_matching_blocks" "SequenceMatcher.get_matching_blocks" 492 335 1 3 197 515
def o203(P:ft):Obj:=fO "get_matching_blocks" "SequenceMatcher.get_matching_blocks" (stB 5 7) .none (.str (v8 (stB 5 7)) 517) ba 202
def o209(P:ft):Obj:=cO "get_opcodes" "SequenceMatcher.get_opcodes" 519 383 1 3 204 530
def o210(P:ft):Obj:=fO "get_opcodes" "SequenceMatcher.get_opcodes" (stB 5 8) .none (.str (v8 (stB 5 8)) 532) ba 209
def o211(P:ft):Obj:=⟨(.type "tuple"),ba,(Data.seq #[(.int 3 534)] 0),#[]⟩
def o217(P:ft):Obj:=cO "get_grouped_opcodes" "SequenceMatcher.get_grouped_opcodes" 535 430 2 35 212 548
def vG(P:ft):Obj:=fO "get_grouped_opcodes" "SequenceMatcher.get_grouped_opcodes" (stB 5 9) (.ref 211) (.str (v8 (stB 5 9)) 550) ba 217
def o241(P:ft):Obj:=⟨(.type "dict"),ba,(Data.dict #[kE P "__module__" 396 (.str "cpy313.difflib" 194),kE P "__firstlineno__" 400 (.int 70 399),kE P "__doc__" 402 (.str docD 401),kE P "__init__" 417 (.ref 160),kE P "set_seqs" 427 (.ref 167),kE P "set_seq1" 436 (.ref 174),kE P "set_seq2" 445 (.ref 181),kE P "_SequenceMatcher__chain_b" 463 (.ref 188),kE P "find_longest_match" 491 (.ref 196),kE P "get_matching_blocks" 518 (.ref 203),kE P "get_opcodes" 533 (.ref 210),kE P "get_grouped_opcodes" 551 (.ref 218),kE P "ratio" 560 (.ref 225),kE P "quick_ratio" 567 (.ref 232),kE P "real_quick_ratio" 574 (.ref 239),kE P "__static_attributes__" 585 (.ref 240),kE P "__dict__" 587 (.ref 243),kE P "__weakref__" 589 (.ref 244)] 3),#[]⟩
def o242(P:ft):Obj:=⟨(.type "type"),ba,(Data.cls {name:="SequenceMatcher",bases:=[(.type "object")],mro:=[(.ref 242),(.type "object")],ns:=241,qualname:="SequenceMatcher",hasDict:=be,slotNames:=[],subclasses:=[],abstract:=false,collection:=ba,hasDel:=false}),#[ba,ba,am (.str "SequenceMatcher" 389),am (.str "SequenceMatcher" 397),am (.builtin "object.__new__"),am (.bool be)]⟩
def o250(P:ft):Obj:=cO0 "_law_versions" "_law_versions" 594 505 1 3 247 597
def o251(P:ft):Obj:=fOx (.str "law_dm0053_08" 592) "_law_versions" "_law_versions" (stA 7) .none .none ba 250
def o255(P:ft):Obj:=cO0 "_law_turned" "_law_turned" 600 516 1 3 252 603
def o256(P:ft):Obj:=fOx (.str "law_dm0053_08" 592) "_law_turned" "_law_turned" (stA 8) .none .none ba 255
def o260(P:ft):Obj:=cO0 "_law_changes" "_law_changes" 606 518 1 3 257 609
def o261(P:ft):Obj:=fOx (.str "law_dm0053_08" 592) "_law_changes" "_law_changes" (stA 9) .none .none ba 260
def o267(P:ft):Obj:=cO "_law_patched" "_law_patched" 612 520 3 3 262 626
def o268(P:ft):Obj:=fOx (.str "law_dm0053_08" 592) "_law_patched" "_law_patched" (stA 10) .none .none ba 267
def o272(P:ft):Obj:=cO0 "_law_fold" "_law_fold" 629 528 2 3 269 632
def o273(P:ft):Obj:=fOx (.str "law_dm0053_08" 592) "_law_fold" "_law_fold" (stA 11) .none .none ba 272
def o279(P:ft):Obj:=cO "_law_carried" "_law_carried" 635 541 3 3 274 647
def o280(P:ft):Obj:=fOx (.str "law_dm0053_08" 592) "_law_carried" "_law_carried" (stA 12) .none .none ba 279
def o284(P:ft):Obj:=cO0 "law" "law" 650 547 1 3 281 653
def o285(P:ft):Obj:=fOx (.str "law_dm0053_08" 592) "law" "law" (stA 13) .none .none ba 284
def KL(P:ft):tf:=[(0,vI P),(1,boot_o_1 P),(2,wt P),(4,wu P),(5,boot_o_5 P),(6,boot_o_6 P),(7,boot_o_7 P),(8,boot_o_8 P),(9,boot_o_9 P),(10,boot_o_10 P),(3,o3 P),(81,o81 P),(82,o82 P),(88,o88 P),(89,o89 P),(91,o91 P),(134,o134 P),(135,o135 P),(136,o136 P),(153,o153 P),(159,o159 P),(160,o160 P),(166,o166 P),(167,o167 P),(173,o173 P),(174,o174 P),(180,o180 P),(181,o181 P),(187,o187 P),(188,o188 P),(189,o189 P),(195,o195 P),(196,o196 P),(202,o202 P),(203,o203 P),(209,o209 P),(210,o210 P),(211,o211 P),(217,o217 P),(218,vG P),(241,o241 P),(242,o242 P),(250,o250 P),(251,o251 P),(255,o255 P),(256,o256 P),(260,o260 P),(261,o261 P),(267,o267 P),(268,o268 P),(272,o272 P),(273,o273 P),(279,o279 P),(280,o280 P),(284,o284 P),(285,o285 P)]
def endN:Nat:=286
def endK:Nat:=656
def finT(w:kb):BT:=(yV pR w).elim .nil λx=>x.2.2.1
def finP(w:kb):Pos:=(yV pR w).elim default λx=>x.2.1
theorem mX(r:u8 R cl h vs (d::e) c):∃ v vs' bs f,vs=v::vs'/\c=bs++f/\ReadsW R cl h v d bs/\u8 R cl h vs' e f:=by
 cases r with |cons a b=>exact⟨_,_,_,_,rfl,rfl,a,b⟩
theorem pO{a:aq d3}(r:u8 R cl h vs [] a):vs= []:=by
 cases r;rfl
theorem pre63(b:l.bound=ba)(a:l.most=am 63)(h:(OpenLaw.pre l).holds [] {args:=[.list xs]}=be):xs.length<=63:=by
 have e:(OpenLaw.pre l).holds [] {args:=[.list xs]}= !decide ((63:Int)<(xs.length:Int)):=by
  unfold OpenLaw.pre
  rw[b,a]
  unfold WTm.holds
  rw[w_and (w_not (w_lt w_lit (w_len_list (w_arg rfl)))) w_lit]
  cases decide ((63:Int)<(xs.length:Int))<;>rfl
 rw[e]at h
 by_cases q:xs.length<=63
 ·exact q
 ·rw[show decide ((63:Int)<(xs.length:Int))=be from bm (zzM1 0x5a28101f41ffd002a01ffda00107 [xs.length] ⋯ q)]at h;cases h
def aCz(l:OpenLaw)(vs:aq bt):Sem Fin:=do match<-nsGet wv l.name with
   |some f=>do ret (<-PySem.call f vs)
   |none=>uy "claim.caller:no-such-global"
theorem yC{H:kh}{os:ua}(ji:l.bound=ba)(y:l.most=am 63)(jk:H.isNs gw=be)(Z:H.nsMap gw l.name=am (.ref fa))(walk:∀ (j:bo) (a:d3) (ns:aq Int) (q:aq Tok),(∀ b o,H.get? b=am o->j.heap.get? b=am o)->j.gens= #[]-> q.length=ns.length->ns.length<=63->j.heap.IsList a ((ns.zip q).map λx=>Value.int x.1 x.2).toArray->H.get? a=ba-> bw (ir l.prog w) wo (call (.ref fa) [.ref a]) (λv s'=>v= .bool be/\(∀ b o,j.heap.get? b=am o->s'.heap.get? b=am o)/\s'.os=j.os/\qu s'.gens) (λ_ _=>f7) j)(args:aq WData)(Q:l.row.toRowW.claim.pre args=be)(S:WData.layableAll args=be)(ord:aq we->aq we)(s:∀ l,(ord l).Perm l):∃ vs j,layAllW [] (classAt H) w.params ord args ⟨H,#[],hB,k,os⟩=am (vs,j)/\ bw (ir l.prog w) wo (aCz l vs) (λfin s'=>∃ f,fin= .done f/\(l.row.toRowW.claim.Ends ⟨H,#[],hB,k,os⟩ args vs j (.ok f) s'/\s'.os=os/\qu s'.gens)) (λe s'=>l.row.toRowW.claim.Ends ⟨H,#[],hB,k,os⟩ args vs j (.error e) s'/\s'.os=os/\qu s'.gens) j:=by
 have hp:=du.mp Q
 refine bM (hasAllW_cons hp.1) λd u L B N=>?_;subst L
 obtain rfl:=hasAllW_nil N
 refine xEA (hasW_list B) λxs K hi=>?_;subst K
 refine xE (qf.mp (layAllW_isSome (R:=[]) (cl:=classAt H) (P:=w.params) (ord:=ord) (λc X=>by cases X) [.list xs] l.row.toRowW.args ⟨H,#[],hB,k,os⟩ hp.1)) λz135 m=>?_;obtain⟨vs,j⟩:=z135
 have p:=layAllW_keeps _ _ _ m
 have A:=layAllW_rest _ _ _ m
 refine c6 (reads_layAllW s _ _ _ m S j.heap (λ_ _ e=>e)) λas J F D=>⟨vs,j,m,o9 (mX J) λv vs' bs cs V T r1 Y=>uJ ((by
  intro R cl h v xs as r
  cases r with |list B N h3 h4=>exact⟨_,_,_,_,_,rfl,c3,B,N,h3,h4⟩:∀{R:wb}{cl:Str->bc d3}{h:kh}{v:bt}{xs:aq WData}{as:aq d3}(r:ReadsW R cl h v (.list xs) as),∃ a o M n bs,v= .ref a/\a∈as/\h.get? a=am o/\o.cls= .type "list" /\o.data= .seq M n/\u8 R cl h M.toList xs bs) r1) λa o jn n jm ev ha ho X jl hr=>bM ((by
   intro R cl h
   intro u
   induction u with
   |nil=>
    intro vs as r _
    exact⟨[],[],rfl,pO r,rfl⟩
   |cons d u ih=>
    intro vs as r hi
    have h:=du.mp (show(WShape.has R d .int && WShape.hasItems R u .int)=be from hi)
    refine xE (hasW_int h.1) λi I=>?_;subst I
    refine o9 (mX r) λv vs' bs cs E _ r1 Y=>rwL E ?_
    refine xE ((by
     intro R cl h v i as r
     cases r;exact⟨_,rfl⟩:∀{R:wb}{cl:Str->bc d3}{h:kh}{v:bt}{i:Int}{as:aq d3}(r:ReadsW R cl h v (.int i) as),∃ t,v= .int i t) r1) λt G=>rwL G ?_
    exact bM (ih Y h.2) λns q W e hd=>⟨i::ns,t::q,b3 Nat.succ W,b3 (Value.int i t::·) e,b3 Nat.succ hd⟩:∀{R:wb}{cl:Str->bc d3}{h:kh},∀ {u:aq WData}{vs:aq bt}{as:aq d3},u8 R cl h vs u as->WShape.hasItems R u .int=be-> ∃ (ns:aq Int) (q:aq Tok),q.length=ns.length/\vs=((ns.zip q).map λx=>Value.int x.1 x.2)/\u.length=ns.length) hr hi) λns q W hv jh=>?_⟩
 have O:vs= [.ref a]:=V.trans (by rw[ev,pO Y])
 refine rwL O ?_
 have jj:ns.length<=63:=by
  exact rwR jh (pre63 ji y hp.2)
 have hA:(H).get? a=ba:=by
  cases hq:(H).get? a with
  |none=>rfl
  |some o'=>exact bv (Heap.lt_size hq) (Nat.not_lt.mpr ((F.2.2 a (T▸ka _ ha)).1))
 have C:j.heap.Ns gw ((H).nsMap gw):=by
  exact i6 (Heap.Ns.of_isNs jk) λo' es n' B N=>⟨o',es,n',p _ _ B,N⟩
 delta aCz
 refine zzB (wpAny_nsGet C (rwL Z (zzB (f4 (walk j a ns q p A.1 W jj ⟨o,ho,X,n,by rw[jl,<-hv]⟩ hA) (λv s' g=>(xAAA g λz136 gk U gg=>?_)) λ_ _ x=>x.elim))));clear g;subst z136
 refine zzP ⟨_,rfl,?_⟩
 have z:=GoodWG.laid (c:=l.row.toRowW.claim) rfl rfl (ident_freeW rfl rfl rfl) (O▸(⟨⟨ord,s,m⟩,J,F,D,p,A.1,A.2.2.1⟩:Laid [] w ⟨H,#[],hB,k,os⟩ j [.list xs] vs as)) ⟨.inl ⟨.bool be,.bool be,[],rfl,λ_=>rfl,.bool be,by kernel_rfl,λ_=>⟨.nil,λ_ h=>nomatch h⟩⟩,.of_keep gk,U,gg⟩
 exact⟨z.1,z.2.1,z.2.2⟩
theorem xN{l:OpenLaw}{c:kb->kh}(X:l.writes=false)(V:l.bound=ba)(B:l.most=am 63)(D:l.row.wellSaid=be)(u:l.row.toRowW.promised)(hb:l.prog.bare)(o1:opensWell l.prog=be)(e1:opening l.prog=plainProg l.prog.main.scope.names)(f1:∀ s,fenceModules? l.prog s=am s)(r:∀ w os,Sem.wp (ir l.prog w) Γ0 (qj l.prog).cur (λfin _ s'=>fin= .done (.ret .none)/\s'=⟨c w,#[],hB,k,os⟩) (λ_ _ _=>f7) default ⟨eo w.params,#[],hB,pz,os⟩)(life:∀ w,(c w).life=(eo w.params).life)(g:∀ w b o,(eo w.params).get? b=am o->b≠wv->(c w).get? b=am o)(h:∀ w,∃ o n,(c w).get? ww=am o/\o.data= .dict #[] n)(j:∀ w,(c w).isNs gw=be)(M:∀ w,vt l.prog (c w)=be)(lk:∀ w,wx (eo w.params) (c w)=be)(C:∀ w:kb,(eo w.params).isNs kl=be)(N:∀ w:kb,(eo w.params).bltView=vj)(K:∀ w,qk (c w))(R:∀ w,isTheDefsW l.prog (c w) l.name)(S:∀ w,(c w).nsMap gw l.name=am (.ref fa))(walk:∀ (w:kb) (d:bo) (a:d3) (ns:aq Int) (ts:aq Tok),(∀ b o,(c w).get? b=am o->d.heap.get? b=am o)->d.gens= #[]-> ts.length=ns.length->ns.length<=63->d.heap.IsList a ((ns.zip ts).map λx=>Value.int x.1 x.2).toArray->(c w).get? a=ba-> bw (ir l.prog w) wo (call (.ref fa) [.ref a]) (λv s'=>v= .bool be/\(∀ b o,d.heap.get? b=am o->s'.heap.get? b=am o)/\s'.os=d.os/\qu s'.gens) (λ_ _=>f7) d):l.row.Holds:=by
 refine⟨D,u,⟨hb,o1,rfl⟩,xEA u λargs P Z=>⟨args,P,(du.mp Z).1⟩,λw=>?_⟩
 refine aCe ((by
  intro p e f w
  refine xEA (dy.mp (boot_plain w p.main.scope.names)) λs hs t=>?_
  simp only[Prod.mk.injEq]at t
  exact⟨s,(AfterImport.of_importEnds (rwL vk (rwL e hs))),t.1,t.2.1,t.2.2.1,t.2.2.2⟩:∀{p:pj}(e:opening p=plainProg p.main.scope.names)(f:∀ s,fenceModules? p s=am s)(w:kb),∃ s,AfterRun (opening p) w s/\s.heap=eo w.params/\s.gens= #[]/\s.drawn=hB/\s.toks=pz) e1 f1 w) λs₀ Q hh L hd ht=>⟨⟨s₀,Q⟩,λs' O=>?_⟩
 obtain rfl:s'=s₀:=AfterImport.unique O Q
 obtain⟨heap,ak,Y,toks,os⟩:=s'
 dsimp only at hh L hd ht
 subst hh L hd ht
 have F:=AfterImport.life Q
 refine⟨_,f1 _,rfl,⟨c w,#[],hB,k,os⟩,((by
  intro p w H k os F r life g h j M lk C N K
  have hs:=(by
   intro H h key
   refine jC h λo n P Z=>?_
   delta uS
   rw[P]
   dsimp only
   rw[Z]
   rfl:∀{H:kh}(h:∃ o n,H.get? ww=am o/\o.data= .dict #[] n)(key:Str),uS H key=ba) h
  refine⟨uO F rfl r,life,rfl,λb o W hn=>g b o W λq=>hn (.inl q),λkey v t=>?_,λkey=>.inl ((hs key).trans ((by
   intro G H g i key
   cases hs:uS G key with
   |none=>rfl
   |some v=>
    have:=i key
    unfold uS at hs this
    cases A:G.get? ww with
    |none=>cases (A▸hs)
    |some o=>
     rw[A]at hs
     cases (((g _ _ A (by decide))▸this)▸hs):∀{G H:kh}(g:∀ b o,G.get? b=am o->b≠wv->H.get? b=am o)(i:∀ key,uS H key=ba)(key:Str),uS G key=ba) g hs key).symm),Pin.keysAreStrs_of j,λx m=>?_,K,λg L=>?_,names_of_bound M,laid_of_kept lk⟩
  ·rw[hs]at t;cases t
  ·exact((by
    intro G H g m x
    unfold Heap.isNs at m
    cases A:G.get? kl with
    |none=>cases (A▸m)
    |some o=>
     delta builtinOf
     rw[g _ _ A (by decide),A]:∀{G H:kh}(g:∀ b o,G.get? b=am o->b≠wv->H.get? b=am o)(m:G.isNs kl=be)(x:Str),builtinOf H x=builtinOf G x) g C x).trans ((Pin.builtinOf_eq C x).trans (Heap.of_bltView C N x m))
  ·exact bv L (by simp):∀{p:pj}{w:kb}{H:kh}{k:Nat}{os:ua}(F:Shared.asleep ⟨eo w.params,#[],hB,pz,os⟩)(r:Sem.wp (ir p w) Γ0 (qj p).cur (λfin _ s'=>fin= .done (.ret .none)/\s'=⟨H,#[],hB,k,os⟩) (λ_ _ _=>f7) default ⟨eo w.params,#[],hB,pz,os⟩)(life:H.life=(eo w.params).life)(g:∀ b o,(eo w.params).get? b=am o->b≠wv->H.get? b=am o)(h:∃ o n,H.get? ww=am o/\o.data= .dict #[] n)(j:H.isNs gw=be)(M:vt p H=be)(lk:wx (eo w.params) H=be)(C:(eo w.params).isNs kl=be)(N:(eo w.params).bltView=vj)(K:qk H),TopRan p w ⟨eo w.params,#[],hB,pz,os⟩ ⟨H,#[],hB,k,os⟩) F (r w os) (life w) (g w) (h w) (j w) (M w) (lk w) (C w) (N w) (K w)),λn hn=>?_,λx m=>(nomatch (show x∈([]:wb) from m)),λx m=>(nomatch (show x∈([]:wb) from m)),?_⟩
 ·obtain rfl:n=l.name:=by simpa [OpenLaw.row] using hn
  exact R w
 refine ClaimW.callFrom_of_specG (tree:=aCz l) (Shared.asleep_of_life (life w) F) rfl λargs I J ord E=>jC (yC (k:=k) (os:=os) V B (j w) (S w) (walk w) args I J ord E) λvs d q1 q2=>?_
 have no: ¬l.row.writes=be:=λq=>by rw[show l.row.writes=l.writes from rfl,X]at q;cases q
 exact⟨vs,d,q1,f4 q2 (λfin s' y=>xEAAA y λf e g1 T U=>⟨f,e,g1,T,U,λq=>bv q no⟩) λe s' z=>xAA z λg1 T U=>⟨g1,T,U,λq=>bv q no⟩⟩
def H1(w:kb):kh:=ub (finT w) endN (eo w.params).life
set_option tactic.hygienic true in
theorem yO(w:kb):(KL w.params).In (H1 w):=by
 have f:∀ (K:tf) (T:BT) (n:Nat) (c:Life),(K.map λx=>(T.get x.1).bind alive)=K.map (λx=>am x.2)->(K.all λx=>blt x.1 n)=be->K.In (ub T n c):=by
  intro K T n c
  induction K with
  |nil=>intro _ _ a o e;cases e
  |cons p r i=>
   obtain⟨b,x⟩:=p
   intro d g a o e
   simp only[kn,List.cons.injEq]at d
   simp only[List.all_cons,Bool.and_eq_true]at g
   simp only[List.lookup]at e
   split at e
   ·rename_i q
    refine cxS e ?_
    obtain rfl:=kr.mp q
    exact xEA (bn.mp d.1) λo' h j=>(abs_get (iH g.1) h).trans j
   ·exact i d.2 g.2 a o e
 exact f _ _ _ _ (by kernel_rfl) (by kernel_rfl)
theorem aHv(w:kb)(os:ua):Sem.wp (ir pw w) Γ0 (qj pw).cur (λfin q s'=>fin= .done (.ret .none)/\s'=⟨H1 w,#[],hB,endK,os⟩) (λq q q=>f7) default ⟨eo w.params,#[],hB,pz,os⟩:=by
 have h:=(by intro w;kernel_rfl:∀(w:kb),yV pR w=am (.ok (.done (.ret .none)),finP w,finT w,endN,endK)) w
 unfold yV at h
 rw[<-(by
  delta den
  rw[(by
   funext id
   delta tbl
   rw[<-(congrFun (PySem.W.S.eqLit_eq "type.__new__" _ rfl) id)]
   by_cases e:id="type.__new__"
   ·subst e
    rw[(qr _)]
    rw[<-tn_eq]
    rw[vk]
    kernel_rfl
   ·rw[(pd.mpr e)]
    rw[vk,PySem.W.Fast.te14364793385576792824]:sj=tbl),PySem.W.Fast.te11892475500146522536]:wf sj=den),<-p_eq]at h
 have e:ab (eo w.params).life #[] hB os (bt0 w.params) 11 pz=⟨eo w.params,#[],hB,pz,os⟩:=by
  delta ab;rw[(by intro P;kernel_rfl:∀(P:ft),ub (bt0 P) 11 (eo P).life=eo P)]
 exact rwR e (aF4 (ir pw w) (eo w.params).life #[] hB os (λhq=>xT (ir pw w) (eo w.params).life #[] hB os 3000 hq) _ (rwL h ⟨rfl,rfl⟩))
theorem get3(w:kb):(H1 w).get? 3=am (o3 w.params):=yO w _ _ ⋯
theorem old1(w:kb)(b:d3)(o:Obj)(h:(eo w.params).get? b=am o)(c:b≠wv):(H1 w).get? b=am o:=by
 have a:b<11:=Heap.lt_size h
 have K:=yO w
 match b,a,c with
 |0,_,_=>
  rw[(by kernel_rfl:(eo w.params).get? 0=am (vI w.params))]at h;exact cxS h (K _ _ ⋯)
 |1,_,_=>
  rw[(by kernel_rfl:(eo w.params).get? 1=am (boot_o_1 w.params))]at h;exact cxS h (K _ _ ⋯)
 |2,_,_=>
  rw[(by kernel_rfl:(eo w.params).get? 2=am (wt w.params))]at h;exact cxS h (K _ _ ⋯)
 |3,_,c=>exact bv rfl c
 |4,_,_=>
  rw[(by kernel_rfl:(eo w.params).get? 4=am (wu w.params))]at h;exact cxS h (K _ _ ⋯)
 |5,_,_=>
  rw[(by kernel_rfl:(eo w.params).get? 5=am (boot_o_5 w.params))]at h;exact cxS h (K _ _ ⋯)
 |6,_,_=>
  rw[(by kernel_rfl:(eo w.params).get? 6=am (boot_o_6 w.params))]at h;exact cxS h (K _ _ ⋯)
 |7,_,_=>
  rw[(by kernel_rfl:(eo w.params).get? 7=am (boot_o_7 w.params))]at h;exact cxS h (K _ _ ⋯)
 |8,_,_=>
  rw[(by kernel_rfl:(eo w.params).get? 8=am (boot_o_8 w.params))]at h;exact cxS h (K _ _ ⋯)
 |9,_,_=>
  rw[(by kernel_rfl:(eo w.params).get? 9=am (boot_o_9 w.params))]at h;exact cxS h (K _ _ ⋯)
 |10,_,_=>
  rw[(by kernel_rfl:(eo w.params).get? 10=am (boot_o_10 w.params))]at h;exact cxS h (K _ _ ⋯)
 |b+11,a,_=>exact bv a (Nat.not_lt.mpr (ou 11 b))
theorem ns3(w:kb)(x:Str):(H1 w).nsMap gw x=(match (o3 w.params).data with | .dict a _=>nsFind a x |_=>ba):=by
 unfold Heap.nsMap gw;rw[get3];rfl
theorem isn1(w:kb):(H1 w).isNs gw=be:=by
 unfold Heap.isNs gw;rw[get3];kernel_rfl
theorem nb1(w:kb):vt pw (H1 w)=be:=by
 delta vt;rw[isn1,(by
  intro w
  unfold Heap.nsKeys gw;rw[get3];rfl:∀(w:kb),(H1 w).nsKeys gw=(match (o3 w.params).data with
  | .dict a _=>a.toList.filterMap λe=>match e.key with | .str n _=>am n |_=>ba
  |_=>[]))];kernel_rfl
theorem lk1(w:kb):wx (eo w.params) (H1 w)=be:=by
 delta wx;rw[isn1];kernel_rfl
theorem ib1(w:kb):(eo w.params).isNs kl=be:=by kernel_rfl
theorem bv1(w:kb):(eo w.params).bltView=vj:=by kernel_rfl
theorem bm1(w:kb):qk (H1 w):=by
 refine⟨4,wu w.params,?_,yO w _ _ ⋯,by kernel_rfl,by kernel_rfl⟩
 rw[Pin.globalOf_eq (isn1 w),ns3];kernel_rfl
def law:Str:=Str.ofString "law"
theorem fa1(w:kb):(H1 w).nsMap gw law=am (.ref 285):=by rw[ns3];kernel_rfl
theorem pin1(w:kb):isTheDefsW pw (H1 w) law:=by
 exact⟨285,o285 w.params,_,_,_,_,(Pin.globalOf_eq (isn1 w) _).trans (fa1 w),yO w _ _ ⋯,rfl,(by kernel_rfl:pw.theDef law=am (fPar (stA 13),cK (stA 13),fSco (stA 13))),rfl,rfl,rfl,rfl,rfl,rfl,rfl,rfl,⟨.inl ⟨rfl,rfl⟩,[],rfl,.inl ⟨rfl,rfl⟩⟩⟩
theorem said5:OpenLaw.wellSaid PySem.Challenge.rw_dm0053_08=be:=by kernel_rfl
theorem head(walk:∀ (w:kb) (c:bo) (a:d3) (ns:aq Int) (d:aq Tok),(∀ b o,(H1 w).get? b=am o->c.heap.get? b=am o)->c.gens= #[]-> d.length=ns.length->ns.length<=63->c.heap.IsList a ((ns.zip d).map λx=>Value.int x.1 x.2).toArray->(H1 w).get? a=ba-> bw (ir pw w) wo (call (.ref 285) [.ref a]) (λv s'=>v= .bool be/\(∀ b o,c.heap.get? b=am o->s'.heap.get? b=am o)/\s'.os=c.os/\qu s'.gens) (λq q=>f7) c):PySem.Challenge.rw_dm0053_08.Holds:=by
 exact holds_law said5 λsaid=>xN rfl rfl rfl said ⟨[.list []],by decide+kernel,by decide+kernel⟩ ⟨rfl,rfl,rfl,rfl,rfl,by decide+kernel⟩ (by decide+kernel) ⋯ (λs=>by kernel_rfl)
  aHv (λq=>rfl) old1 (λw=>⟨wt w.params,0,yO w _ _ ⋯,by kernel_rfl⟩) isn1 nb1 lk1 ib1 bv1 bm1 pin1 fa1 walk
def nth(b:aq jg)(k:Nat):jg:=(b.drop k).headD (.Pass ⟨0,0,0,0⟩)
def e0:Expr:=.Constant .none 0 ⟨0,0,0,0⟩
def p0:Pos:=⟨0,0,0,0⟩
def forT:jg->Expr | .For t _ _ _ _=>t |_=>e0
def forI:jg->Expr | .For _ i _ _ _=>i |_=>e0
def forB:jg->aq jg | .For _ _ b _ _=>b |_=>[]
def forP:jg->Pos | .For _ _ _ _ p=>p |_=>p0
def ifT:jg->Expr | .If t _ _ _=>t |_=>e0
def ifB:jg->aq jg | .If _ b _ _=>b |_=>[]
def ifP:jg->Pos | .If _ _ _ p=>p |_=>p0
def exE:jg->Expr | .Expr e _=>e |_=>e0
def exP:jg->Pos | .Expr _ p=>p |_=>p0
def yiE:Expr->Expr | .Yield (am e) _=>e |_=>e0
def yiP:Expr->Pos | .Yield _ p=>p |_=>p0
def gshOf(fd:uw)(fa:d3)(b:aq jg)(k:Nat):GSh:=let f:=nth b k
 let i1:=nth (forB f) 0
 let i2:=nth b (k+1)
 {fd:=fd,fa:=fa,pre:=b.take k,target:=forT f,iter:=forI f,cond:=ifT i1,ye:=yiE (exE (nth (ifB i1) 1)),cond2:=ifT i2,ye2:=yiE (exE (nth (ifB i2) 0)),s1:=nth (ifB i1) 0,s3:=nth (forB f) 1,s2:=(ifB i1).drop 2,p1:=yiP (exE (nth (ifB i1) 1)),p2:=exP (nth (ifB i1) 1),p3:=yiP (exE (nth (ifB i2) 0)),p4:=exP (nth (ifB i2) 0),p5:=ifP i1,p6:=ifP i2,p7:=forP f}
def bD(o:Obj):uw:=match o.data with | .func fd=>fd |_=> {name:="",qualname:="",params:=⟨[],[],ba,[],[],ba,[]⟩,body:=.stmts [],scope:=default,globals:=0,closure:=[],defaults:=.none,kwdefaults:=.none,doc:=.none,pyModule:=.none,annotations:=ba,code:=.none,closureTuple:=.none,builtins:=0}
noncomputable abbrev gsh(P:ft):GSh:=gshOf (bD (vG P)) 218 (cK (stB 5 9)) 7
structure XX(C:Cx) where
 w:kb
 base:∀ b o,(H1 w).get? b=am o->C.base.heap.get? b=am o
 gr:∀ ρ s l gn,C.GR ρ s l gn=fP (gsh w.params) ρ s l gn
variable(X:XX C)
theorem XX.get{b:d3}(h:(KL X.w.params).lookup b=am o):C.base.heap.get? b=am o:=X.base _ _ (yO X.w _ _ h)
theorem XX.inK:(KL X.w.params).In C.base.heap:=λq q h=>X.get h
theorem XX.sys(X:XX C):∃ o,C.base.heap.get? oq=am o:=⟨_,X.get (Option.eq_some_of_isSome (by kernel_rfl:((KL X.w.params).lookup oq).isSome=be))⟩
theorem y9{h:kh}{a:d3}(e:h.get? a=am o)(c:(match o.data with | .dict b _=>b.all (λx=>match x.key with | .str _ _=>be |_=>false) |_=>false)=be):h.Ns a (λx=>match o.data with | .dict b _=>nsFind b x |_=>ba):=by
 have q:h.isNs a=be:=by unfold Heap.isNs;exact rwL e c
 have y:h.nsMap a=(λx=>match o.data with | .dict b _=>nsFind b x |_=>ba):=by funext x;unfold Heap.nsMap;rw[e];rfl
 exact rwR y (Heap.Ns.of_isNs q)
theorem XX.smc(X:XX C):SMC C:=by
 refine⟨⟨_,_,_,_,_,_,_,_,_,_,_,_,X.get (o:=o242 X.w.params) ⋯⟩,⟨_,y9 (X.get (o:=o241 X.w.params) ⋯) ⋯,?_,by kernel_rfl,by kernel_rfl,by kernel_rfl,?_⟩,?_⟩
 ·intro x b
  simp only[dD,e6,dz,vz]at b
  rcases b with rfl |rfl |rfl |rfl |rfl |rfl |rfl |rfl |rfl |rfl<;>kernel_rfl
 ·intro p a
  simp only[fA,e6,dz,vz]at a
  rcases a with rfl |rfl |rfl |rfl |rfl |rfl |rfl |rfl |rfl<;>kernel_rfl
 ·intro p a
  simp only[fA,e6,dz,vz]at a
  rcases a with rfl |rfl |rfl |rfl |rfl |rfl |rfl |rfl |rfl
  ·exact⟨o160 X.w.params,X.get ⋯,rfl⟩
  ·exact⟨o167 X.w.params,X.get ⋯,rfl⟩
  ·exact⟨o174 X.w.params,X.get ⋯,rfl⟩
  ·exact⟨o181 X.w.params,X.get ⋯,rfl⟩
  ·exact⟨o188 X.w.params,X.get ⋯,rfl⟩
  ·exact⟨o196 X.w.params,X.get ⋯,rfl⟩
  ·exact⟨o203 X.w.params,X.get ⋯,rfl⟩
  ·exact⟨o210 X.w.params,X.get ⋯,rfl⟩
  ·exact⟨vG X.w.params,X.get ⋯,rfl⟩
theorem XX.kc:KCx C (KL X.w.params) where
 mem:=X.inK
 makes:=by kernel_rfl
 init:=by kernel_rfl
 initT:=by kernel_rfl
 callS:=by kernel_rfl
 callM:=by kernel_rfl
 typM:=by kernel_rfl
 clsM:=⟨_,_,_,_,(by kernel_rfl:(KL X.w.params).lookup aF=am (o135 X.w.params)),by kernel_rfl,by kernel_rfl,by kernel_rfl,by kernel_rfl,by kernel_rfl,by kernel_rfl,by kernel_rfl⟩
 clsS:=⟨_,_,_,_,(by kernel_rfl:(KL X.w.params).lookup d7=am (o242 X.w.params))⟩
 readsM:=by kernel_rfl
 newM:=by kernel_rfl
 makeM:=by kernel_rfl
 smM:=by kernel_rfl
 cmM:=⟨Value.bool false,by kernel_rfl⟩
 initM:=by kernel_rfl
 newT:=by kernel_rfl
theorem XX.km:KMx C (KL X.w.params) where
 toK:=X.kc
 bases:=⟨_,_,_,_,(by kernel_rfl:(KL X.w.params).lookup aF=am (o135 X.w.params)),by kernel_rfl⟩
 iter:=by kernel_rfl
 len:=by kernel_rfl
 lt:=by kernel_rfl
 tup:=by kernel_rfl
def nmL(env:Env)(x:Str):ec:=(match env.kindOf x with |some .local=>be |some .cell=>be |some .free=>be |_=>false) && !(x==("__debug__" :Str)) && !(x==("__classdict__" :Str))
theorem w9(h:nmL env x=be):(env.kindOf x=am .local\/env.kindOf x=am .cell\/env.kindOf x=am .free)/\(x==("__debug__" :Str))=false/\(x==("__classdict__" :Str))=false:=by
 have a:=du.mp h
 have b:=du.mp a.1
 refine⟨?_,Bool.not_eq_true' _ |>.mp b.2,Bool.not_eq_true' _ |>.mp a.2⟩
 have c:=b.1
 revert c
 cases env.kindOf x with
 |none=>intro h;cases h
 |some k=>cases k<;>intro h<;>first |exact .inl rfl |exact .inr (.inl rfl) |exact .inr (.inr rfl) |cases h
theorem EV.nm(h:nmL env x=be):EV C r env (.Name x pos) (eN x):=EV.name (w9 h).1 (w9 h).2.1 (w9 h).2.2
def nmB(env:Env)(x:Str):ec:=match env.kindOf x with |some .local=>be |some .cell=>be |_=>false
theorem nms_ok{l:aq Str}(h:l.all (nmB env)=be)(x:Str)(b:x∈l):env.kindOf x=am .local\/env.kindOf x=am .cell:=by
 have a:=iu.mp h x b
 unfold nmB at a
 revert a
 cases env.kindOf x with
 |none=>intro h;cases h
 |some k=>cases k<;>intro h<;>first |exact .inl rfl |exact .inr rfl |cases h
def nmD(ns:aq (Str×ko))(x:Str):ec:=match ns.lookup x with |some .local=>be |some .cell=>be |_=>false
theorem c7{l:aq Str}(h:l.all (nmD ns)=be)(x:Str)(b:x∈l):ns.lookup x=am .local\/ns.lookup x=am .cell:=by
 have a:=iu.mp h x b
 unfold nmD at a
 revert a
 cases ns.lookup x with
 |none=>intro h;cases h
 |some k=>cases k<;>intro h<;>first |exact .inl rfl |exact .inr rfl |cases h
theorem aD2{ns:aq (Str×ko)}{l:aq Str}(h:l.all (λx=>ns.lookup x==am .local)=be)(x:Str)(a:x∈l):ns.lookup x=am .local:=se (iu.mp h x a)
theorem XX.def_{a:d3}(h1:(KL X.w.params).lookup a=am o)(h2:(KL X.w.params).lookup c=am oc)(g:o.data= .func (bD o))(m:(bD o).code= .ref c)(f:oc.data= .fields vs)(k:vs[1]? =am (.str (bD o).qualname t))(n:(bD o).body= .stmts body)(b:(bD o).closure= [])(d:(bD o).globals=gw)(p:(bD o).builtins=kl)(q:(bD o).scope.kind= .function)(j:(bD o).scope.isCoroutine=false)(i:((bD o).scope.names.all λx=>match x.2 with | .free=>false |_=>be)=be):Def C a (bD o) body:=⟨⟨_,X.get h1,g⟩,⟨c,_,_,_,m,X.get h2,f,k⟩,n,b,d,p,q,j,(by
 intro l h x
 exact λe=>(Bool.false_ne_true (iu.mp h _ (mem_of_lookup e))):∀{l:aq (Str×ko)}(h:(l.all λx=>match x.2 with | .free=>false |_=>be)=be)(x:Str),l.lookup x≠am .free) i⟩
def alln(P:aq bt->Prop)(n:Nat):aq bt->Prop:=n.rec P λq ih l=>∀ a,ih (l++[a])
theorem aJk:∀ {l us:aq bt},us.length=n->alln P n l->P (l++us):=by
 induction n with
 |zero=>intro l us h p;cases ie h;rw[gz];exact p
 |succ n b=>
  intro l us h p
  cases us with
  |nil=>cases h
  |cons a us=>rw[List.append_cons];exact b (Nat.succ.inj h) (p a)
theorem XX.bnd{a:aq Str}{b:aq bt}(n:Nat)(e:a.length=n+b.length)(h:alln (λus=>∀ S,peek (KL X.w.params) S (bindArgs fd ⟨us,[]⟩)=am (a.zip (us++b))) n []):Binds C fd a b:=λs us d c M A E Q q=>
 (Looks.of_peek (X.kc.mem.keeps d) (aJk (Nat.add_right_cancel (bq.symm.trans (c.trans e))) h _)).here q
theorem XX.ns3:C.base.heap.Ns gw (λx=>match (o3 X.w.params).data with | .dict a _=>nsFind a x |_=>ba):=y9 (X.get (o:=o3 X.w.params) ⋯) ⋯
theorem XX.ns0:C.base.heap.Ns kl (λx=>match (vI X.w.params).data with | .dict a _=>nsFind a x |_=>ba):=y9 (X.get (o:=vI X.w.params) ⋯) ⋯
theorem XX.g_Match(X:XX C):Glo C "Match" (.ref aF):=⟨_,X.ns3,.inl ⋯⟩
theorem XX.g_SequenceMatcher(X:XX C):Glo C "SequenceMatcher" (.ref d7):=⟨_,X.ns3,.inl ⋯⟩
theorem XX.g__law_versions(X:XX C):Glo C "_law_versions" (.ref 251):=⟨_,X.ns3,.inl ⋯⟩
theorem XX.g__law_turned(X:XX C):Glo C "_law_turned" (.ref 256):=⟨_,X.ns3,.inl ⋯⟩
theorem XX.g__law_changes(X:XX C):Glo C "_law_changes" (.ref 261):=⟨_,X.ns3,.inl ⋯⟩
theorem XX.g__law_patched(X:XX C):Glo C "_law_patched" (.ref 268):=⟨_,X.ns3,.inl ⋯⟩
theorem XX.g__law_fold(X:XX C):Glo C "_law_fold" (.ref 273):=⟨_,X.ns3,.inl ⋯⟩
theorem XX.g__law_carried(X:XX C):Glo C "_law_carried" (.ref 280):=⟨_,X.ns3,.inl ⋯⟩
theorem XX.g_sorted(X:XX C):Glo C "sorted" (.builtin "sorted"):=⟨_,X.ns3,.inr ⟨by kernel_rfl,_,X.ns0,by kernel_rfl⟩⟩
theorem XX.g_zip(X:XX C):Glo C "zip" (.type "zip"):=⟨_,X.ns3,.inr ⟨by kernel_rfl,_,X.ns0,by kernel_rfl⟩⟩
theorem XX.g_list(X:XX C):Glo C "list" (.type "list"):=⟨_,X.ns3,.inr ⟨by kernel_rfl,_,X.ns0,by kernel_rfl⟩⟩
theorem XX.g_map(X:XX C):Glo C "map" (.type "map"):=⟨_,X.ns3,.inr ⟨by kernel_rfl,_,X.ns0,by kernel_rfl⟩⟩
theorem XX.g_set(X:XX C):Glo C "set" (.type "set"):=⟨_,X.ns3,.inr ⟨by kernel_rfl,_,X.ns0,by kernel_rfl⟩⟩
theorem XX.g_range(X:XX C):Glo C "range" (.type "range"):=⟨_,X.ns3,.inr ⟨by kernel_rfl,_,X.ns0,by kernel_rfl⟩⟩
theorem XX.g_enumerate(X:XX C):Glo C "enumerate" (.type "enumerate"):=⟨_,X.ns3,.inr ⟨by kernel_rfl,_,X.ns0,by kernel_rfl⟩⟩
theorem XX.g_tuple(X:XX C):Glo C "tuple" (.type "tuple"):=⟨_,X.ns3,.inr ⟨by kernel_rfl,_,X.ns0,by kernel_rfl⟩⟩
theorem XX.g_len(X:XX C):Glo C "len" (.builtin "len"):=⟨_,X.ns3,.inr ⟨by kernel_rfl,_,X.ns0,by kernel_rfl⟩⟩
theorem XX.g_max(X:XX C):Glo C "max" (.builtin "max"):=⟨_,X.ns3,.inr ⟨by kernel_rfl,_,X.ns0,by kernel_rfl⟩⟩
theorem XX.g_min(X:XX C):Glo C "min" (.builtin "min"):=⟨_,X.ns3,.inr ⟨by kernel_rfl,_,X.ns0,by kernel_rfl⟩⟩
theorem XX.g_sum(X:XX C):Glo C "sum" (.builtin "sum"):=⟨_,X.ns3,.inr ⟨by kernel_rfl,_,X.ns0,by kernel_rfl⟩⟩
theorem XX.d_new:Def C 82 (bD (o82 X.w.params)) (cK (stB 3 4)):=X.def_ (oc:=o81 X.w.params) ⋯ ⋯ rfl rfl rfl rfl rfl rfl rfl rfl ⋯ ⋯ ⋯
theorem XX.b_new:Binds C (bD (o82 X.w.params)) ["_cls","a","b","size"] []:=X.bnd 4 rfl λq q q q q=>by kernel_rfl
theorem XX.d_make:Def C 89 (bD (o89 X.w.params)) (cK (stB 3 5)):=X.def_ (oc:=o88 X.w.params) ⋯ ⋯ rfl rfl rfl rfl rfl rfl rfl rfl ⋯ ⋯ ⋯
theorem XX.b_make:Binds C (bD (o89 X.w.params)) ["cls","iterable"] []:=X.bnd 2 rfl λq q q=>by kernel_rfl
theorem XX.d_init:Def C 160 (bD (o160 X.w.params)) (cK (stB 5 1)):=X.def_ (oc:=o159 X.w.params) ⋯ ⋯ rfl rfl rfl rfl rfl rfl rfl rfl ⋯ ⋯ ⋯
theorem XX.b_init:Binds C (bD (o160 X.w.params)) ["self","isjunk","a","b","autojunk"] []:=X.bnd 5 rfl λq q q q q q=>by kernel_rfl
theorem XX.b_init1:Binds C (bD (o160 X.w.params)) ["self","isjunk","a","b","autojunk"] [Value.bool be]:=X.bnd 4 rfl λq q q q q=>by kernel_rfl
theorem XX.d_set_seqs:Def C 167 (bD (o167 X.w.params)) (cK (stB 5 2)):=X.def_ (oc:=o166 X.w.params) ⋯ ⋯ rfl rfl rfl rfl rfl rfl rfl rfl ⋯ ⋯ ⋯
theorem XX.b_set_seqs:Binds C (bD (o167 X.w.params)) ["self","a","b"] []:=X.bnd 3 rfl λq q q q=>by kernel_rfl
theorem XX.d_set_seq1:Def C 174 (bD (o174 X.w.params)) (cK (stB 5 3)):=X.def_ (oc:=o173 X.w.params) ⋯ ⋯ rfl rfl rfl rfl rfl rfl rfl rfl ⋯ ⋯ ⋯
theorem XX.b_set_seq1:Binds C (bD (o174 X.w.params)) ["self","a"] []:=X.bnd 2 rfl λq q q=>by kernel_rfl
theorem XX.d_set_seq2:Def C 181 (bD (o181 X.w.params)) (cK (stB 5 4)):=X.def_ (oc:=o180 X.w.params) ⋯ ⋯ rfl rfl rfl rfl rfl rfl rfl rfl ⋯ ⋯ ⋯
theorem XX.b_set_seq2:Binds C (bD (o181 X.w.params)) ["self","b"] []:=X.bnd 2 rfl λq q q=>by kernel_rfl
theorem XX.d_chain_b:Def C 188 (bD (o188 X.w.params)) (cK (stB 5 5)):=X.def_ (oc:=o187 X.w.params) ⋯ ⋯ rfl rfl rfl rfl rfl rfl rfl rfl ⋯ ⋯ ⋯
theorem XX.b_chain_b:Binds C (bD (o188 X.w.params)) ["self"] []:=X.bnd 1 rfl λq q=>by kernel_rfl
theorem XX.d_find_longest_match:Def C 196 (bD (o196 X.w.params)) (cK (stB 5 6)):=X.def_ (oc:=o195 X.w.params) ⋯ ⋯ rfl rfl rfl rfl rfl rfl rfl rfl ⋯ ⋯ ⋯
theorem XX.b_find_longest_match:Binds C (bD (o196 X.w.params)) ["self","alo","ahi","blo","bhi"] []:=X.bnd 5 rfl λq q q q q q=>by kernel_rfl
theorem XX.d_get_matching_blocks:Def C 203 (bD (o203 X.w.params)) (cK (stB 5 7)):=X.def_ (oc:=o202 X.w.params) ⋯ ⋯ rfl rfl rfl rfl rfl rfl rfl rfl ⋯ ⋯ ⋯
theorem XX.b_get_matching_blocks:Binds C (bD (o203 X.w.params)) ["self"] []:=X.bnd 1 rfl λq q=>by kernel_rfl
theorem XX.d_get_opcodes:Def C 210 (bD (o210 X.w.params)) (cK (stB 5 8)):=X.def_ (oc:=o209 X.w.params) ⋯ ⋯ rfl rfl rfl rfl rfl rfl rfl rfl ⋯ ⋯ ⋯
theorem XX.b_get_opcodes:Binds C (bD (o210 X.w.params)) ["self"] []:=X.bnd 1 rfl λq q=>by kernel_rfl
theorem XX.d_get_grouped_opcodes:Def C 218 (bD (vG X.w.params)) (cK (stB 5 9)):=X.def_ (oc:=o217 X.w.params) ⋯ ⋯ rfl rfl rfl rfl rfl rfl rfl rfl ⋯ ⋯ ⋯
theorem XX.b_get_grouped_opcodes:Binds C (bD (vG X.w.params)) ["self","n"] []:=X.bnd 2 rfl λq q q=>by kernel_rfl
theorem XX.b_get_grouped_opcodes1:Binds C (bD (vG X.w.params)) ["self","n"] [Value.int 3 534]:=X.bnd 1 rfl λq q=>by kernel_rfl
theorem XX.d__law_versions:Def C 251 (bD (o251 X.w.params)) (cK (stA 7)):=X.def_ (oc:=o250 X.w.params) ⋯ ⋯ rfl rfl rfl rfl rfl rfl rfl rfl ⋯ ⋯ ⋯
theorem XX.b__law_versions:Binds C (bD (o251 X.w.params)) ["numbers"] []:=X.bnd 1 rfl λq q=>by kernel_rfl
theorem XX.d__law_turned:Def C 256 (bD (o256 X.w.params)) (cK (stA 8)):=X.def_ (oc:=o255 X.w.params) ⋯ ⋯ rfl rfl rfl rfl rfl rfl rfl rfl ⋯ ⋯ ⋯
theorem XX.b__law_turned:Binds C (bD (o256 X.w.params)) ["codes"] []:=X.bnd 1 rfl λq q=>by kernel_rfl
theorem XX.d__law_changes:Def C 261 (bD (o261 X.w.params)) (cK (stA 9)):=X.def_ (oc:=o260 X.w.params) ⋯ ⋯ rfl rfl rfl rfl rfl rfl rfl rfl ⋯ ⋯ ⋯
theorem XX.b__law_changes:Binds C (bD (o261 X.w.params)) ["codes"] []:=X.bnd 1 rfl λq q=>by kernel_rfl
theorem XX.d__law_patched:Def C 268 (bD (o268 X.w.params)) (cK (stA 10)):=X.def_ (oc:=o267 X.w.params) ⋯ ⋯ rfl rfl rfl rfl rfl rfl rfl rfl ⋯ ⋯ ⋯
theorem XX.b__law_patched:Binds C (bD (o268 X.w.params)) ["old","new","groups"] []:=X.bnd 3 rfl λq q q q=>by kernel_rfl
theorem XX.d__law_fold:Def C 273 (bD (o273 X.w.params)) (cK (stA 11)):=X.def_ (oc:=o272 X.w.params) ⋯ ⋯ rfl rfl rfl rfl rfl rfl rfl rfl ⋯ ⋯ ⋯
theorem XX.b__law_fold:Binds C (bD (o273 X.w.params)) ["one","two"] []:=X.bnd 2 rfl λq q q=>by kernel_rfl
theorem XX.d__law_carried:Def C 280 (bD (o280 X.w.params)) (cK (stA 12)):=X.def_ (oc:=o279 X.w.params) ⋯ ⋯ rfl rfl rfl rfl rfl rfl rfl rfl ⋯ ⋯ ⋯
theorem XX.b__law_carried:Binds C (bD (o280 X.w.params)) ["codes","n","line"] []:=X.bnd 3 rfl λq q q q=>by kernel_rfl
theorem XX.d_law:Def C 285 (bD (o285 X.w.params)) (cK (stA 13)):=X.def_ (oc:=o284 X.w.params) ⋯ ⋯ rfl rfl rfl rfl rfl rfl rfl rfl ⋯ ⋯ ⋯
theorem XX.b_law:Binds C (bD (o285 X.w.params)) ["script"] []:=X.bnd 1 rfl λq q=>by kernel_rfl
theorem XX.gc:GCx C (gsh X.w.params) where
 gr:=X.gr
 loc:=λL x=>by
  have h:∀ k,((gsh X.w.params).envL L).kindOf x=am k->k≠ .cell/\k≠ .free:=λk e=>by
   have:=iu.mp (by kernel_rfl:(bD (vG X.w.params)).scope.names.all (λp=>match p.2 with | .cell=>false | .free=>false |_=>be)=be) _ (mem_of_lookup e)
   constructor<;>rintro rfl<;>simp at this
  exact⟨λe=>(h _ e).1 rfl,λe=>(h _ e).2 rfl⟩
 cells:=λL=>by kernel_rfl
 kind:=by kernel_rfl
 gl:=by kernel_rfl
 bi:=by kernel_rfl
theorem aCc{H:d3}{a b:bt}(T:A.handled=ba)(D:ZipApart z u n v t H I)(p:IsZip s.heap z u n .none)(K:wy s.heap u (.ref v) (.ref t))(B:wy s.heap n a b)(h1:s.heap.IsListIter v H O)(h2:s.heap.IsListIter t I N)(J:s.heap.IsList H xs)(G:s.heap.IsList I M)(U:xs[O]? =am x)(R:M[N]? =ba)(S:∀ h',wy h' n x b->(∀ c o,c≠z->c≠n->c≠v->c≠t->s.heap.get? c=am o->h'.get? c=am o)->Q ba {s with heap:=h'}):bw (ir prog w) A (nr (.ref z)) Q E s:=by
 delta nr
 refine zzB (ly (e8 ⟨_,p,rfl⟩ F.slot_zip_next (fu F.slot_zip_next ⟨_,p,rfl⟩ F.entry_zip_next ?_ (F.args_zip_next_1 _))))
 show bw _ _ (wz (.ref z) 2 >>=_) _ _ _
 refine zzB (gx p rfl (x:=.bool false) rfl (zzB (gx p rfl rfl (zzB (hE K rfl (zzB (zzB (gx p rfl rfl (zzP (zzB (pt (zzB (gx p rfl rfl (zzB (wpAny_setField_rec p (by simp) λh₁ i d=>?_)))))))))))))))
 replace i:IsZip h₁ z u n .ellipsis:=i
 refine zzB ?_
 simp only[List.zipIdx_cons,List.zipIdx_nil,lw,u0]
 refine zzB (zzB (lu (zzB (wpAny_nextOf_list_item (h1.extBut d.extBut D.i1z) (J.extBut d.extBut D.l1z) U λh₂ C f=>zzP ?_))))
 have l:=f.extBut _ _ D.TOi1 (d.extBut _ _ D.TOz B)
 refine zzB (hE l rfl (zzB (wpAny_updateSeq_pair l λh₃ h g=>?_)))
 replace h:wy h₃ n x b:=h
 refine zzB (uz (zzP (zzB (zzB (lu ?_)))))
 refine zzB (wpAny_nextOf_list_end T (((h2.extBut d.extBut D.i2z).extBut f.extBut D.i12.symm).extBut g.extBut D.TOi2.symm)
  (((G.extBut d.extBut D.l2z).extBut f.extBut D.l2i1).extBut g.extBut D.l2TO) R λh₄ e k W=>?_)
 refine xEA W λoe r q=>?_
 have m:=k _ _ D.i2z.symm (g.extBut _ _ D.TOz.symm (f.extBut _ _ D.i1z.symm i))
 have y:e≠z:=λx=>by subst x;refine cyS (m▸r) λzq=>?_;subst zq;simp at q
 exact wpAny_setField_rec m (by simp) λh₅ X j=>zzB (ki ⟨oe,j.extBut _ _ y r,q⟩ qh (zzP (S h₅ (j.extBut _ _ D.TOz (k _ _ D.TOi2 h)) λc o L c2 V P x=>j.extBut _ _ L (k _ _ P (g.extBut _ _ c2 (f.extBut _ _ V (d.extBut _ _ L x)))))))
structure Zs where
 c1:Nat
 c2:Nat
 t:Nat
 k:Nat
inductive ZpR(ρ:aq Lc)(h:kh)(it:Zs)(v:bt):bt->(d3->Prop)->Prop
 |mk {z TI i1 i2:d3}{l1 l2 lt:Lc} (g1:ρ[it.c1]? =am l1) (g2:ρ[it.c2]? =am l2) (gt:ρ[it.t]? =am lt) (D:ZipApart z TI lt.a i1 i2 l1.a l2.a)
  (hz:IsZip h z TI lt.a v) (hTI:wy h TI (.ref i1) (.ref i2)) (h1:h.IsListIter i1 l1.a it.k) (h2:h.IsListIter i2 l2.a it.k):ZpR ρ h it v (.ref z) (λb=>b=z\/b=TI\/b=i1\/b=i2)
theorem Sim.zipStep{t:Nat}{X Y:d3->Prop}{a b:bt}(S:Sim C H ρ s)(gt:ρ[t]? =am c)(u:H[t]? =am .zt)(B:wy h' c.a a b)(g:∀ b o,¬Y b->b≠c.a->s.heap.get? b=am o->h'.get? b=am o)(j:∀ b,Y b->X b)(E:∀ a o,Y a->s.heap.get? a=am o->¬aY o)(w:∀ b,X b->¬Own ρ b/\C.base.heap.get? b=ba):Sim C H ρ {s with heap:=h',toks:=k}/\NxI ρ X s ρ {s with heap:=h',toks:=k}:=by
 have o:=S.objs t _ c u gt
 obtain⟨G,F,a0,b0,r⟩:=o
 have A:Im ρ ρ s.heap h':=λb x e i n=>by
  by_cases q:b=c.a
  ·rw[q,r]at e;refine cyS e λzq=>?_;subst zq
   exact bv ⟨c,eg gt,q.symm⟩ (n rfl)
  ·by_cases y:Y b
   ·exact bv i (E b x y e)
   ·exact⟨g b x y q e,n⟩
 have h:C.base.heap.get? c.a=ba:=by
  rcases S.ro t c gt with ⟨vs,e⟩ |e
  ·cases (u▸e)
  ·exact e.1
 refine⟨⟨S.len,λb o e=>?_,λi m l v f=>?_,S.ro,S.disj,S.disjG,S.os,S.bare⟩,⟨cc _,λl f=>by simp at f,λb o e D p=>?_,A,λb o e p=>?_⟩⟩
 ·refine g b o (λy=>?_) (λq=>?_) (S.keep b o e)
  ·rw[(w b (j b y)).2]at e;cases e
  ·rw[q,h]at e;cases e
 ·by_cases q:i=t
  ·subst q
   rw[u]at v;refine cxS v ?_
   rw[gt]at f;refine cxS f ?_
   exact⟨G,F,a,b,B⟩
  ·have d:=S.disj i t l c f gt q
   have own:∀ {b},l.has b->¬Y b:=λhb y=>(w _ (j _ y)).1 ⟨l,eg f,hb⟩
   exact(S.objs i m l v f).mono (cc _) A (λo e=>g _ o (own (.inl rfl)) (λz=>d _ (.inl rfl) (.inl z)) e) (λo e=>g _ o (own (.inr rfl)) (λz=>d _ (.inr rfl) (.inl z)) e) λI I I e=>e
 ·exact g b o (λy=>p (j b y)) (λq=>D ⟨c,eg gt,.inl q⟩) e
 ·by_cases q:b=c.a
  ·exact⟨_,q▸B⟩
  ·exact⟨o,g b o (λy=>p (j b y)) q e⟩
def kZip(C:Cx):ItK C where
 σ:=Zs
 nx:=λit H Q=>H[it.t]? =am .zt/\Lf (lst H (.ref it.c1)) λvs=>Lf (lst H (.ref it.c2)) λws=>Lf (vs[it.k]?) λv=>Q ((ws[it.k]?).map λw=>(.tup [v,w],⟨it.c1,it.c2,it.t,it.k+1⟩)) H
 rel:=λρ s it x X=>ZpR ρ s.heap it .none x X
 mid:=λρ s it u x X=>∃ T,u= .ref T/\ZpR ρ s.heap it (rawInt T) x X
 tg:=λt=>∃ elts k pos,t= .Tuple elts k pos
 need:=0
 mono:=λR p i hk=>by
  cases R with
  |mk g1 g2 gt D hz hTI h1 h2=>exact .mk (aR p g1) (aR p g2) (aR p gt) D (hk _ _ (.inl rfl) hz) (hk _ _ (.inr (.inl rfl)) hTI) (h1.at λo e=>hk _ o (.inr (.inr (.inl rfl))) e) (h2.at λo e=>hk _ o (.inr (.inr (.inr rfl))) e)
 alive:=λR b hb=>by
  cases R with
  |mk g1 g2 gt D hz hTI h1 h2=>
   rcases hb with rfl |rfl |rfl |rfl
   ·exact⟨_,hz⟩
   ·exact⟨_,hTI⟩
   ·obtain⟨o,e,_⟩:=h1;exact⟨_,e⟩
   ·obtain⟨o,e,_⟩:=h2;exact⟨_,e⟩
 next:=λ{A s ρ H it x X Q r} a hr S R hX q=>by
  obtain⟨ht,q⟩:=q
  refine q.elim λvs hl1 q=>q.elim λws hl2 q=>q.elim λv hv q=>?_
  cases R with
  | @mk z TI i1 i2 l1 l2 lt g1 g2 gt D hz hTI h1 h2=>
  refine bM (b6 S (.ref g1) hl1) λad xs e1 q2 q3=>?_
  cases e1
  refine bM (b6 S (.ref g2) hl2) λad2 ys e2 p2 p3=>?_
  cases e2
  have o:OR C ρ s lt .zt:=S.objs _ _ lt ht gt
  obtain⟨_,_,a0,b0,hTO⟩:=o
  refine xEA (q3.get hv) λu hu ru=>?_
  have hi:∀ b o,(b=z\/b=i1\/b=i2)->s.heap.get? b=am o->¬aY o:=λb o hb e=>by
   rcases hb with rfl |rfl |rfl
   ·rw[hz]at e;cases e;simp [aY]
   ·obtain⟨o',e',c1,c2⟩:=h1;rw[e']at e;cases e;exact mG c1 c2
   ·obtain⟨o',e',c1,c2⟩:=h2;rw[e']at e;cases e;exact mG c1 c2
  have hY:∀ b,(b=z\/b=i1\/b=i2)->(b=z\/b=TI\/b=i1\/b=i2):=λb hb=>by
   rcases hb with q |q |q
   ·exact .inl q
   ·exact .inr (.inr (.inl q))
   ·exact .inr (.inr (.inr q))
  cases hw:ws[it.k]? with
  |some w=>
   rw[hw]at q
   refine xEA (p3.get hw) λu2 hu2 ru2=>?_
   refine wpAny_pyNext_zip_item D hz hTI hTO h1 h2 q2 p2 (by simpa using hu) (by simpa using hu2) λh' a1 a2 a3 a4 a5 a a7=>?_
   have st:=S.zipStep (h':=h') (k:=s.toks) (Y:=λb=>b=z\/b=i1\/b=i2) gt ht a2 (λb o y q e=>a7 b o (λz=>y (.inl z)) q (λz=>y (.inr (.inl z))) (λz=>y (.inr (.inr z))) e) hY hi hX
   exact l7.item (σ:=Zs) (it':=Zs.mk it.c1 it.c2 it.t (it.k+1)) st.1 st.2 (.tup a5 (S.nown (aU _)) (.cons (ru.mono (cc _) st.2.imm) (.cons (ru2.mono (cc _) st.2.imm) .nil)))
    ⟨_,rfl,.mk g1 g2 gt D a1 (a7 _ _ D.TIz D.TITO D.TIi1 D.TIi2 hTI) a3 a4⟩ q
  |none=>
   rw[hw]at q
   refine aCc hr.1 D hz hTI hTO h1 h2 q2 p2 (by simpa using hu) (Array.getElem?_eq_none (by rw[p3.sz];exact getElem?_eq_none_iff.mp hw)) λh' a2 a7=>?_
   have st:=S.zipStep (h':=h') (k:=s.toks) (Y:=λb=>b=z\/b=i1\/b=i2) gt ht a2 (λb o y q e=>a7 b o (λz=>y (.inl z)) q (λz=>y (.inr (.inl z))) (λz=>y (.inr (.inr z))) e) hY hi hX
   exact .done st.1 st.2 q
 lgo:=λ{A s ρ H it x X u target r} hr S M tg hX=>by
  refine uK tg λelts k pos z68=>?_;clear tg;subst z68
  obtain⟨T,eT,R⟩:=M
  subst eT
  cases R with
  | @mk z TI i1 i2 l1 l2 lt g1 g2 gt D hz hTI h1 h2=>
  refine wpAny_letOwnedTupleGo_zip hz λh' a1 hs=>?_
  have st:=S.iterX (h':=h') (k:=s.toks) (X:=λb=>b=z) (λb o hb e'=>(hs.2 b hb).trans e') (λb o hb e=>by rw[show b=z from hb,hz]at e;cases e;simp [aY]) (λb hb=>hX b (.inl hb))
  exact⟨st.1,⟨st.2.pre,st.2.new,λb o e ho nx=>st.2.kp b o e ho λq=>nx (.inl q),st.2.imm,λb o e nx=>st.2.al b o e λq=>nx (.inl q)⟩,
   .mk g1 g2 gt D a1 (hs.extBut _ _ D.TIz hTI) (h1.extBut hs.extBut D.i1z) (h2.extBut hs.extBut D.i2z)⟩
theorem gR.zip:gR (kZip C):=by
 rintro A s ρ H it x X Q _ _ R h
 cases R with
 |mk b c gt D a=>exact wpAny_pyIter_zip a h
def two(vs:aq V):bc (Nat×Nat):=match vs with | [.ref i,.ref j]=>am (i,j) |_=>ba
set_option tactic.hygienic true in
theorem aHa(r:VRs ρ h us vs)(e:two vs=am p):∃ l1 l2,us= [.ref l1.a,.ref l2.a]/\ρ[p.1]? =am l1/\ρ[p.2]? =am l2:=by
 unfold two at e
 split at e
 ·refine cxSP e ?_
  rename_i i j
  cases r with
  |cons f r=>
  cases r with
  |cons c r=>
  cases r
  refine xEA f.inv λl1 d b=>?_
  refine xEA c.inv λl2 g k=>?_
  exact⟨l1,l2,by rw[d,g],b,k⟩
 ·cases e
def iZ(fs:EFs):Lo->MH->(Zs->MH->Prop)->Prop:=λlo H Q=>fs lo H λvs H1=>Lf (two vs) λp=>(∃ vs,lst H1 (.ref p.1)=am vs)/\(∃ ws,lst H1 (.ref p.2)=am ws)/\Q ⟨p.1,p.2,H1.length,0⟩ (H1++[.zt])
theorem IV.zip(h:EVs C r env [j,o] fs)(T:Glo C "zip" (.type "zip"))(R:env.kindOf "zip" =am .globalImplicit)(d:l9 env [j,o]):IV (kZip C) r env (.Call (.Name "zip" U) [j,o] [] pos) (iZ fs):=λA s ρ H lo Q V S F q=>k6 (kV T R (by decide) S F (om (by rw[d.2];rfl) dT
  (wmN (j6 h d V S F q) λa s1 p=>by
  obtain⟨ps,kw⟩:=a
  obtain⟨x,c,D,rs,q⟩:=p
  subst x
  refine⟨c.keep,q.elim λp hp q=>?_⟩
  obtain⟨⟨vs,u⟩,⟨ws,t⟩,q⟩:=q
  obtain⟨Y,O,P,J,E⟩:=aHa rs hp
  subst P
  refine bM (b6 c (.ref J) u) λad xs e G q3=>?_
  cases e
  refine bM (b6 c (.ref E) t) λad2 ys e p2 p3=>?_
  cases e
  refine call_zip_2 G p2 λh' B Z K a4 X _ L=>wpAny_pyIter_zip B ?_
  have w:∀ k,s1.heap.get? (s1.heap.objs.size+k)=ba:=λk=>Heap.get?_none_of_le (r5 _ _)
  have st:=c.grow (k:=s1.toks) (h':=h') (l:=⟨s1.heap.objs.size+3,s1.heap.objs.size+3,ba⟩) (m:=.zt) L (w 3) (w 3) rfl ⟨rfl,rfl,_,_,K⟩
  have A:Y.a<s1.heap.objs.size:=by refine xEA G λo e _=>?_;exact Heap.lt_size e
  have v:O.a<s1.heap.objs.size:=by refine xEA p2 λo e _=>?_;exact Heap.lt_size e
  refine⟨st.1,D.trans (st.2 _),.mk (aR (gy _ _) J) (aR (gy _ _) E) c.last ((by exact λ{n a b} g i=>⟨(show(n+2:Nat)≠n+4 by exact (zzM0 0xa813da000bda00044 [n] ⋯)),(show(n+3:Nat)≠n+4 by exact (zzM0 0xa813da000fda00044 [n] ⋯)),(show(n:Nat)≠n+4 by exact (zzM0 0x2a04f68028044 [n] ⋯)),(show(n+1:Nat)≠n+4 by exact (zzM0 0xa813da0007da00044 [n] ⋯)),(show(n+2:Nat)≠n+3 by exact (zzM0 0xa80fda000bda00044 [n] ⋯)),(show(n+2:Nat)≠n by exact (zzM0 0x1a280bda00044 [n] ⋯)),(show(n+2:Nat)≠n+1 by exact (zzM0 0x6807da000bda00044 [n] ⋯)),(show(n+3:Nat)≠n by exact (zzM0 0x1a280fda00044 [n] ⋯)),(show(n+3:Nat)≠n+1 by exact (zzM0 0x6807da000fda00044 [n] ⋯)),(show(n:Nat)≠n+1 by exact (zzM0 0x2a01f68028044 [n] ⋯)),(show(a:Nat)≠n+4 by exact Y352 g),(show(a:Nat)≠n+3 by exact Y351 g),(show(a:Nat)≠n by exact Y350 g),(show(a:Nat)≠n+1 by exact Y349 g),(show(b:Nat)≠n+4 by exact Y352 i),(show(b:Nat)≠n+3 by exact Y351 i),(show(b:Nat)≠n by exact Y350 i),(show(b:Nat)≠n+1 by exact Y349 i)⟩:∀{n a b:Nat}(g:a<n)(i:b<n),ZipApart (n+4) (n+2) (n+3) n (n+1) a b) A v) B Z a4 X,λb hb=>?_,q⟩
  have W:∃ k,b=s1.heap.objs.size+k/\k≠3:=by
   rcases hb with rfl |rfl |rfl |rfl
   ·exact⟨4,rfl,by decide⟩
   ·exact⟨2,rfl,by decide⟩
   ·exact⟨0,rfl,by decide⟩
   ·exact⟨1,rfl,by decide⟩
  obtain⟨k,rfl,M⟩:=W
  have f:=cP D c (w k)
  refine⟨f.1,λy=>xEA y λl N I=>?_,f.2.2⟩
  rcases e7.mp N with z |z
  ·exact f.2.1 ⟨l,z,I⟩
  ·cases dv.mp z
   rcases I with z |z<;>exact M (Nat.add_left_cancel z))))
universe u v
structure Pk(α:Type u)(P:α->Prop):Type u where
 f:α
 ok:P f
def bd{α:Type u}{P:α->Prop}{β:Type v}(o:bc (Pk α P))(k:∀ f,P f->bc β):bc β:=o.rec ba λR=>R.rec k
def gtO{α:Type u}{P:α->Prop}(o:bc (Pk α P)):bc α:=o.rec ba λR=>am R.1
theorem vC{α:Type u}{P:α->Prop}{o:bc (Pk α P)}{f:α}(h:gtO o=am f):P f:=by
 cases o with
 |none=>cases h
 |some R=>exact cxS h R.2
def orE{β:Type u}(o k:bc β):bc β:=o.rec k am
def onN{β:Type u}(n m:Nat)(k:n=m->bc β)(o:bc β):bc β:=if h:n=m then k h else o
def onS{β:Type u}(x y:Str)(k:x=y->bc β)(o:bc β):bc β:=if h:x=y then k h else o
def onB{β:Type u}(b:ec)(k:b=be->bc β):bc β:=if h:b=be then k h else ba
def onF{β:Type u}(b:ec)(k:b=false->bc β):bc β:=if h:b=false then k h else ba
noncomputable abbrev Kn:=Str->bc ko
structure KE(κ:Kn)(env:Env):Prop where
 kd:env.kindOf=κ
 sk:env.scope.kind= .function
structure Pf(e:Expr):Prop where
 star:∀ es env,e9 (e::es) env=(false,jc e env)::e9 es env
 sub:∀ o i,subscripted e false o i=operate [o,i] (qw o i)
 beh:∀ op,ve op e=false
 fold:∀ env x,ip e env x=pure x
 sw:e.ctorIdx.beq 8=false->∀ t l env,sb e t l env=pure false
 nb:e.ctorIdx.beq 16=false->∀ x env,kg e x env (jc e env)=jc e env
 lg:e.ctorIdx.beq 23=be->∀ o x,on e o x=pure ()
 tv:(e.ctorIdx.beq 0 || e.ctorIdx.beq 3 || e.ctorIdx.beq 5 || e.ctorIdx.beq 15)=false->∀ env,isTrue e env (jc e env)=(do let v<-jc e env;wk e.pos;sx [v] (truthy v))
 nt:e.ctorIdx.beq 25=false->∀ ts n p env,kf [.Tuple ts n p] e env=pure ba
theorem fZ(h: [0,2,3,5,6,8,15,16,19,20,21,23,24,25].elem e.ctorIdx=be):Pf e:=by
 have z:∀ {P:Prop},be=false->P:=λh=>(Bool.false_ne_true h.symm).elim
 cases e<;>first |exact z h.symm |exact ⟨λq q=>rfl,λq q=>rfl,λq=>rfl,λq q=>rfl,by first |exact λq q q q=>rfl |exact z,by first |exact λq q q=>rfl |exact z,by first |exact λh=>z h.symm |exact λq q q=>rfl,by first |exact λq q=>rfl |exact z,by first |exact λq q q q q=>rfl |exact z⟩
structure EP(C:Cx)(r:Nat)(κ:Kn)(e:Expr)(f:EF):Prop where
 ok:∀ ⦃env:Env⦄,KE κ env->EV C r env e f
 pf:Pf e
noncomputable abbrev RE(C:Cx)(r:Nat)(κ:Kn)(e:Expr):=Pk EF (EP C r κ e)
structure EsP(C:Cx)(r:Nat)(κ:Kn)(es:aq Expr)(f:EFs):Prop where
 ok:∀ ⦃env:Env⦄,KE κ env->EVs C r env es f
 fl:∀ env,l9 env es
def TP(C:Cx)(r:Nat)(κ:Kn)(e:Expr)(f:TF):Prop:=∀ ⦃env:Env⦄,KE κ env->TV C r env e f
noncomputable abbrev RT(C:Cx)(r:Nat)(κ:Kn)(e:Expr):=Pk TF (TP C r κ e)
noncomputable abbrev dEt(C:Cx)(r:Nat):=∀ (κ:Kn) (e:Expr),bc (RE C r κ e)
noncomputable abbrev dTt(C:Cx)(r:Nat):=∀ (κ:Kn) (e:Expr),bc (RT C r κ e)
structure Fn(C:Cx) where
 x:Str
 n:Nat
 v:bt
 r0:Nat
 g:CF
 cv:CV C r0 v g
 gl:Glo C x v
structure Mth(C:Cx) where
 x:Str
 n:Nat
 a:d3
 r0:Nat
 g:CF
 cv:CV C r0 (.ref a) g
 hm:fA.contains (x,a)=be
structure Kti(C:Cx) where
 K:ItK C
 fi:EF->IF K
 ok:∀ {r env e f},EV C r env e f->IV K r env e (fi f)
 re:gR K
 tg:∀ t,K.tg t
structure DX(C:Cx) where
 smc:SMC C
 T:aq (Fn C)
 M:aq (Mth C)
 kt:Expr->Kti C
 fr:tf
 km:KMx C fr
 en:Glo C "enumerate" (.type "enumerate")/\Glo C "zip" (.type "zip")
 sys:∃ o,C.base.heap.get? oq=am o
 xe:∀ {r:Nat} (d:dEt C r) (t:dTt C r) (κ:Kn) (e:Expr),bc (RE C r κ e)
 xt:∀ {r:Nat} (d:dEt C r) (κ:Kn) (e:Expr),bc (RT C r κ e)
 xs:∀ {r:Nat} (d:dEt C r) (κ:Kn) (st:jg),bc (Pk SF λf=>∀ ⦃env:Env⦄,KE κ env->SV C r env st f)
def dCo(κ:Kn)(c:Const)(k:Nat)(p:Pos):bc (RE C r κ (.Constant c k p)):=have pf:Pf (.Constant c k p):=fZ rfl
 onN c.ctorIdx 2 (λh=>Const.int.elim (motive:=λc=>Pf (.Constant c k p)->bc (RE C r κ (.Constant c k p))) c h (λi pf=>am ⟨eK (.int i),λq q=>EV.int,pf⟩) pf) <|
 onN c.ctorIdx 5 (λh=>Const.str.elim (motive:=λc=>Pf (.Constant c k p)->bc (RE C r κ (.Constant c k p))) c h (λi pf=>am ⟨eK (.str i),λq q=>EV.str,pf⟩) pf) <|
 onN c.ctorIdx 1 (λh=>Const.bool.elim (motive:=λc=>Pf (.Constant c k p)->bc (RE C r κ (.Constant c k p))) c h (λi pf=>am ⟨eK (.bool i),λq q=>EV.bool,pf⟩) pf) <|
 onN c.ctorIdx 0 (λh=>Const.none.elim (motive:=λc=>Pf (.Constant c k p)->bc (RE C r κ (.Constant c k p))) c h (λpf=>am ⟨eK .none,λq q=>EV.none,pf⟩) pf) ba
def nmK(κ:Kn)(x:Str):ec:=(match κ x with |some .local=>be |some .cell=>be |some .free=>be |_=>false) && !(x==("__debug__" :Str)) && !(x==("__classdict__" :Str))
theorem KE.nm(k:KE κ env)(h:nmK κ x=be):nmL env x=be:=by delta nmL;exact rwL k.kd h
def glK(κ:Kn)(x:Str):ec:=κ x==am .globalImplicit && !(x==("__debug__" :Str))
theorem KE.gl(k:KE κ env)(h:glK κ x=be):env.kindOf x=am .globalImplicit/\(x==("__debug__" :Str))=false:=have a:=du.mp h
 ⟨by exact rwL k.kd (se a.1),Bool.not_eq_true' _ |>.mp a.2⟩
def dEs(d:dEt C r)(κ:Kn)(es:aq Expr):bc (Pk EFs (EsP C r κ es)):=es.rec
 (am ⟨esN,λq q=>EVs.nil,λq=>⟨.inl rfl,λq=>rfl⟩⟩)
 λe es ih=>bd (d κ e) λf h=>bd ih λg hs=>am ⟨esC f g,λq k=>EVs.cons (h.ok k) (hs.ok k) (h.pf.star _ _),λenv=>⟨.inr ⟨e,es,rfl,h.pf.star _ _⟩,λpos=>by rw[h.pf.star];exact(hs.fl env).2 pos⟩⟩
theorem EsP.al{a:aq Expr}(h:EsP C r κ a f)(env:Env)(pos:Pos):(lr pos (e9 a env)).all (λx=> !x.1)=be:=by
 rw[<-List.not_any_eq_all_not,(h.fl env).2];rfl
def opP(C:Cx)(r:Nat)(op:Operator)(g:OpF):Prop:=OpR C r (qN op) g
def dOp(op:Operator):bc (Pk OpF (opP C r op)):=op.casesOn (motive:=λop=>bc (Pk OpF (opP C r op))) (am ⟨aH,OpR.add⟩) (am ⟨bL,OpR.sub⟩) (am ⟨vE,OpR.mul⟩) ba ba (am ⟨gQ,OpR.mod⟩) ba ba ba ba ba ba (am ⟨nQ,OpR.div⟩)
def cmP(C:Cx)(r:Nat)(op:CmpOp)(g:OpF):Prop:=OpR C r (jo op) g
def dCm(op:CmpOp):bc (Pk OpF (cmP C r op)):=op.casesOn (motive:=λop=>bc (Pk OpF (cmP C r op))) (am ⟨aX id,OpR.eq⟩) (am ⟨aX not,OpR.ne⟩) (am ⟨oLt,OpR.lt⟩) (am ⟨oLe,OpR.le⟩) (am ⟨oGt,OpR.gt⟩) (am ⟨oGe,OpR.ge⟩) (am ⟨oIs id,OpR.is_⟩) (am ⟨oIs not,OpR.isNot⟩) (am ⟨oIn id,OpR.in_⟩) (am ⟨oIn not,OpR.notIn⟩)
def fnd(x:Str)(n:Nat)(l:aq (Fn C)):bc (Pk (Fn C) λt=>t.x=x):=l.rec ba λt q ih=>onS t.x x (λh=>bif t.n.beq 99 || t.n.beq n then am ⟨t,h⟩ else ih) ih
def fndM(x:Str)(n:Nat)(l:aq (Mth C)):bc (Pk (Mth C) λt=>t.x=x):=l.rec ba λt q ih=>onS t.x x (λh=>bif t.n.beq 99 || t.n.beq n then am ⟨t,h⟩ else ih) ih
theorem mshape{b:Pos}{a:aq Expr}(p:Pf o)(d:o.ctorIdx.beq 16=false)(al:EsP C r κ a f)(c:a.length.blt 30=be)(e:(b.endLine==pos.line)=be):fM env o x b pos a:=⟨p.nb d _ _,by rw[al.al];exact bm (iH c),e⟩
theorem bk1(p:Pf e)(env:Env)(pos:Pos):lr pos (e9 [e] env)= [(false,jc e env)]:=by rw[p.star];rfl
theorem bk2{a:Expr}(p:Pf e)(q:Pf a)(env:Env)(pos:Pos):lr pos (e9 [e,a] env)= [(false,jc e env),(false,jc a env)]:=by rw[p.star,q.star];rfl
theorem pfC{a:aq Expr}:Pf (.Call f a ks p):=fZ rfl
theorem es1(h:EP C r κ e f):EsP C r κ [e] (esC f esN):=⟨λq k=>EVs.cons (h.ok k) EVs.nil (h.pf.star _ _),λenv=>⟨.inr ⟨e,_,rfl,h.pf.star _ _⟩,λpos=>by rw[h.pf.star];rfl⟩⟩
theorem es0:EsP C r κ [] esN:=⟨λq q=>EVs.nil,λq=>⟨.inl rfl,λq=>rfl⟩⟩
theorem es2{a:Expr}(h:EP C r κ e f)(h2:EP C r κ a f2):EsP C r κ [e,a] (esC f (esC f2 esN)):=⟨λq k=>EVs.cons (h.ok k) ((es1 h2).ok k) (h.pf.star _ _),λenv=>⟨.inr ⟨e,_,rfl,h.pf.star _ _⟩,λpos=>by rw[h.pf.star];exact((es1 h2).fl env).2 pos⟩⟩
def dMe(D:DX C)(d:dEt C r)(κ:Kn)(o:Expr)(m:Str)(ap:Pos)(as:aq Expr)(pos:Pos)(f:EF)(h:EP C r κ o f)(hc:o.ctorIdx.beq 16=false)(hk:(ap.endLine==pos.line)=be):bc (RE C r κ (.Call (.Attribute o m ap) as [] pos)):=orE (onS m "append" (λq=>as.casesOn ba λe z=>z.casesOn (bd (d κ e) λf2 h2=>am ⟨c9 f f2,λa k=>by subst q;exact EV.append (h.ok k) (h2.ok k) (mshape h.pf hc (es1 h2) rfl hk) (bk1 h2.pf _ _),pfC⟩) λa a=>ba) <|
  onS m "pop" (λq=>as.casesOn (am ⟨ePop f,λa k=>by subst q;exact EV.pop (h.ok k) (mshape h.pf hc (es0 (C:=C) (r:=r) (κ:=κ)) rfl hk),pfC⟩) λa a=>ba) <|
  onS m "setdefault" (λq=>as.casesOn ba λe z=>z.casesOn ba λe2 z=>z.casesOn (bd (d κ e) λf2 h2=>bd (d κ e2) λf3 h3=>am ⟨aAm f f2 f3,λa k=>by subst q;exact EV.setdefault D.sys (h.ok k) (h2.ok k) (h3.ok k) (mshape h.pf hc (es2 h2 h3) rfl hk) (bk2 h2.pf h3.pf _ _),pfC⟩) λa a=>ba) <|
  onS m "get" (λq=>as.casesOn ba λe z=>z.casesOn ba λe2 z=>z.casesOn (bd (d κ e) λf2 h2=>bd (d κ e2) λf3 h3=>am ⟨eGet f f2 f3,λa k=>by subst q;exact EV.get D.sys (h.ok k) (h2.ok k) (h3.ok k) (mshape h.pf hc (es2 h2 h3) rfl hk) (bk2 h2.pf h3.pf _ _),pfC⟩) λa a=>ba) ba) <|
 bd (dEs d κ as) λg hs=>bd (fndM m as.length D.M) λt te=>onB (t.r0.ble r) λhr=>onB (as.length.blt 30) λhl=>am ⟨cW t.g f g,λa k=>EV.meth D.smc (te▸oz.mp t.hm) (t.cv.lift hr) (h.ok k) (hs.ok k) (hs.fl _) (mshape h.pf hc hs hl hk),pfC⟩
def dCl(D:DX C)(d:dEt C r)(κ:Kn)(fn:Expr)(as:aq Expr)(ks:aq uV)(pos:Pos):bc (RE C r κ (.Call fn as ks pos)):=ks.casesOn (onN fn.ctorIdx 23 (λq=>Expr.Name.elim fn q λx np=>orE
  (onB (nmK κ x) λhx=>bd (dEs d κ as) λg hs=>am ⟨eCv (eN x) g,λa k=>EV.callV D.sys (EV.nm (k.nm hx)) (hs.ok k) (hs.fl _),pfC⟩) <|
  onB (glK κ x) λhg=>bd (dEs d κ as) λg hs=>bd (fnd x as.length D.T) λt te=>onB (t.r0.ble r) λhr=>am ⟨aJ t.g g,λa k=>EV.call (t.cv.lift hr) (te▸t.gl) (hs.ok k) (hs.fl _) (k.gl hg).1 (k.gl hg).2,pfC⟩) <|
 onN fn.ctorIdx 20 (λq=>Expr.Attribute.elim fn q λo m ap=>bd (d κ o) λf h=>onF (o.ctorIdx.beq 16) λhc=>onB (ap.endLine==pos.line) λhk=>dMe D d κ o m ap as pos f h hc hk) ba) λa a=>ba
def alP(C:Cx)(r:Nat)(κ:Kn)(op:BoolOp)(es:aq Expr)(f:TF):Prop:=∀ ⦃env:Env⦄,KE κ env->j7 C r env op es f
def dAll(t:dTt C r)(κ:Kn)(op:BoolOp)(es:aq Expr):bc (Pk TF (alP C r κ op es)):=op.casesOn (motive:=λop=>bc (Pk TF (alP C r κ op es)))
 (es.rec (am ⟨tK be,λq q=>j7.and_nil⟩) λe es ih=>bd (t κ e) λf h=>bd ih λg hs=>am ⟨bC f g,λq k=>j7.and_cons (h k) (hs k)⟩)
 (es.rec (am ⟨tK false,λq q=>j7.or_nil⟩) λe es ih=>bd (t κ e) λf h=>bd ih λg hs=>am ⟨tOr f g,λq k=>j7.or_cons (h k) (hs k)⟩)
def dCmp{M:Expr->Type}(d:dEt C r)(κ:Kn)(l:Expr)(ops:aq CmpOp)(rs:aq Expr)(p:Pos)(w:∀ op e f g o,EP C r κ l f->EP C r κ e g->cmP C r op o->M (.Compare l [op] [e] p)):bc (M (.Compare l ops rs p)):=ops.casesOn ba λop z=>z.casesOn (rs.casesOn ba λe z=>z.casesOn (bd (d κ l) λf h=>bd (d κ e) λg h2=>bd (dCm (C:=C) (r:=r) op) λo ho=>am (w op e f g o h h2 ho)) λq q=>ba) λq q=>ba
def dT1(D:DX C)(d:dEt C r)(t:dTt C r):dTt C r:=λκ e=>
 orE (onN e.ctorIdx 3 (λq=>Expr.UnaryOp.elim e q λop x p=>onN op.ctorIdx 1 (λq=>UnaryOp.Not.elim (motive:=λop=>bc (RT C r κ (.UnaryOp op x p))) op q <| bd (t κ x) λf h=>am ⟨tNot f,λa k=>TV.not (h k)⟩) ba) <|
  onN e.ctorIdx 0 (λq=>Expr.BoolOp.elim e q λop vs p=>bd (dAll t κ op vs) λf h=>am ⟨f,λa k=>TV.boolOp (h k)⟩) <|
  onN e.ctorIdx 15 (λq=>Expr.Compare.elim e q λl ops rs p=>dCmp d κ l ops rs p λop e f g o h h2 ho=>⟨tE (aA o f g),λa k=>TV.cmp1 (h.ok k) (h2.ok k) ho (h2.pf.beh _)⟩) <|
  onF (e.ctorIdx.beq 0 || e.ctorIdx.beq 3 || e.ctorIdx.beq 5 || e.ctorIdx.beq 15) λhs=>bd (d κ e) λf h=>am ⟨tE f,λa k=>TV.val (h.ok k) (h.pf.tv hs _)⟩) <| D.xt d κ e
def dTi(D:DX C)(n:Nat)(d:dEt C r):dTt C r:=n.rec (λq q=>ba) λq ih=>dT1 D d ih
structure RIt(C:Cx)(r:Nat)(κ:Kn)(e:Expr) where
 K:ItK C
 fi:IF K
 ok:∀ ⦃env:Env⦄,KE κ env->IV K r env e fi
 re:gR K
 b:ec
 tg:∀ t,(b || t.ctorIdx.beq 25)=be->K.tg t
 nd:K.need<=r
 fold:∀ env x,ip e env x=pure x
def dEn(D:DX C)(d:dEt C r)(κ:Kn)(e:Expr):bc (RIt C r κ e):=onN e.ctorIdx 16 (λq=>Expr.Call.elim e q λfn as ks pos=>
 ks.casesOn (as.casesOn ba λa z=>z.casesOn (onN fn.ctorIdx 23 (λq=>Expr.Name.elim fn q λx np=>
  onS x "enumerate" (λhx=>onB (glK κ "enumerate") λhg=>bd (d κ a) λf h=>am ⟨lN C,iL f,λc k=>by subst hx;exact IV.enum (h.ok k) D.en.1 (k.gl hg).1 ((es1 h).fl _) (h.pf.star _ _),gR.enum,false,
   λt ht=>Expr.Tuple.elim t (Nat.eq_of_beq_eq_true ht) λc c c=>⟨_,_,_,rfl⟩,jw _,λc c=>rfl⟩) ba) ba) λb z=>z.casesOn (onN fn.ctorIdx 23 (λq=>Expr.Name.elim fn q λx np=>
  onS x "zip" (λhx=>onB (glK κ "zip") λhg=>bd (d κ a) λf h=>bd (d κ b) λf2 h2=>am ⟨kZip C,iZ (esC f (esC f2 esN)),λc k=>by subst hx;exact IV.zip ((es2 h h2).ok k) D.en.2 (k.gl hg).1 ((es2 h h2).fl _),gR.zip,false,
   λt ht=>Expr.Tuple.elim t (Nat.eq_of_beq_eq_true ht) λc c c=>⟨_,_,_,rfl⟩,jw _,λc c=>rfl⟩) ba) ba) λc c=>ba) λc c=>ba) ba
def dIi(D:DX C)(d:dEt C r)(κ:Kn)(e:Expr):bc (RIt C r κ e):=orE (dEn D d κ e) <| bd (d κ e) λf h=>onB ((D.kt e).K.need.ble r) λhn=>am ⟨(D.kt e).K,(D.kt e).fi f,λq k=>(D.kt e).ok (h.ok k),(D.kt e).re,be,λt q=>(D.kt e).tg t,iH hn,h.pf.fold⟩
structure AP(W:Env->d3->Prop)(C:Cx)(r:Nat)(κ:Kn)(e:Expr)(f:AF):Prop where
 ok:∀ ⦃env:Env⦄,KE κ env->AVW C W r env e f
 st:∀ ts env,gj (e::ts) env=(false,vm e env)::gj ts env
 s1:∀ v env,Pf v->(e.ctorIdx.beq 25 && v.ctorIdx.beq 25)=false->kf [e] v env=pure ba
 s2:∀ t ts v env,kf (e::t::ts) v env=pure ba
structure AsP(W:Env->d3->Prop)(C:Cx)(r:Nat)(κ:Kn)(es:aq Expr)(f:AFs):Prop where
 ok:∀ ⦃env:Env⦄,KE κ env->qU C W r env es f
 ln:∀ env,(gj es env).length=es.length
 nf:∀ env,(gj es env).findIdx? (·.1)=ba
def dAs(a:∀ e,bc (Pk AF (AP W C r κ e)))(es:aq Expr):bc (Pk AFs (AsP W C r κ es)):=es.rec
 (am ⟨asN,λq q=>qU.nil,λq=>rfl,λq=>rfl⟩)
 λe es ih=>bd (a e) λf h=>bd ih λg hs=>am ⟨asC f g,λq k=>qU.cons (h.ok k) (hs.ok k) (h.st _ _),λenv=>by rw[h.st];exact b3 (·+1) (hs.ln env),λenv=>by rw[h.st,List.findIdx?_cons,hs.nf];rfl⟩
def dLi(κ:Kn)(n:Nat):∀ e,bc (Pk AF (AP LW C r κ e)):=n.rec (λa=>ba) λa ih e=>
 onN e.ctorIdx 23 (λq=>Expr.Name.elim e q λx p=>onB (κ x==am .local) λh=>am ⟨aN x,λa k=>ALV.name (by rw[k.kd];exact se h),λa a=>rfl,λa a a a=>rfl,λa a a a=>rfl⟩) <|
 onN e.ctorIdx 25 (λq=>Expr.Tuple.elim e q λts k p=>bd (dAs ih ts) λf h=>am ⟨uF ts.length f,λa k=>ALV.tuple (h.ok k) (h.ln _) (h.nf _),λa a=>rfl,λa a p n=>p.nt n _ _ _ _,λa a a a=>rfl⟩) ba
def stK(κ:Kn)(x:Str):ec:=match κ x with |some .local=>be |some .cell=>be |_=>false
theorem KE.st(k:KE κ env){l:aq Str}(h:l.all (stK κ)=be):∀ x∈l,env.kindOf x=am .local\/env.kindOf x=am .cell:=nms_ok (by cases k.kd;exact h)
theorem KE.s_(k:KE κ env)(h:stK κ x=be):env.kindOf x=am .local\/env.kindOf x=am .cell:=k.st (l:=[x]) (by show(stK κ x && be)=be;rw[Bool.and_true];exact h) x (.head _)
def dA(D:DX C)(d:dEt C r)(κ:Kn)(n:Nat):∀ e,bc (Pk AF (AP Wr C r κ e)):=n.rec (λc=>ba) λc ih e=>
 onN e.ctorIdx 23 (λq=>Expr.Name.elim e q λx p=>onB (stK κ x) λh=>am ⟨aN x,λc k=>AV.name (k.s_ h),λc c=>rfl,λc c c c=>rfl,λc c c c=>rfl⟩) <|
 onN e.ctorIdx 25 (λq=>Expr.Tuple.elim e q λts k p=>bd (dAs ih ts) λf h=>am ⟨cM ts.length f,λc k=>AV.tupleM D.km (h.ok k) (h.ln _) (h.nf _),λc c=>rfl,λc c p n=>p.nt n _ _ _ _,λc c c c=>rfl⟩) <|
 onN e.ctorIdx 21 (λq=>Expr.Subscript.elim e q λa b p=>bd (d κ a) λf h=>bd (d κ b) λg h2=>am ⟨uG f g,λc k=>AV.sub (h.ok k) (h2.ok k),λc c=>rfl,λc c c c=>rfl,λc c c c=>rfl⟩) <|
 onN e.ctorIdx 20 (λq=>Expr.Attribute.elim e q λa x p=>bd (d κ a) λf h=>onB (dD.contains x) λhx=>am ⟨eZ x f,λc k=>AV.attr D.smc (oz.mp hx) (h.ok k),λc c=>rfl,λc c c c=>rfl,λc c c c=>rfl⟩) ba
def cKi(κ:Kn)(sc:rq):Kn:=λx=>(sc.names.lookup x).map λk=>if (k== .free && ScopeKind.function==ScopeKind.function && κ x==am .cell)=be then .cell else k
theorem KE.comp{a:rq}(k:KE κ env)(h:a.kind= .function)(L:d3):KE (cKi κ a) (hF env a L):=⟨by
 funext x
 rw[j4]
 unfold w8 cKi
 rw[k.sk,k.kd],h⟩
def hidOf(sc:rq):aq Str:=sc.names.filterMap λp=>if (p.2== .local)=be then am p.1 else ba
def csK(κ:Kn)(sc:rq)(hid:aq Str):ec:=decide (sc.kind= .function) && ((sc.names.all λp=>p.2 != .cell) && ((sc.names.all λp=>p.2 != .free || (κ p.1==am .cell)) && ((sc.names.all λp=>p.2 != .local || (sc.names.lookup p.1==am .local && hid.contains p.1)) && (hid.all λx=>sc.names.lookup x != am .free))))
theorem KE.cs(k:KE κ env)(h:csK κ e d=be):mT env e d/\(d.all λx=>e.names.lookup x != am .free)=be:=have a:=du.mp h
 have b:=du.mp a.2
 have c:=du.mp b.2
 ⟨⟨cb a.1,b.1,by exact rwL k.kd c.1,(du.mp c.2).1⟩,(du.mp c.2).2⟩
theorem cm_eq{g:lx}(h:g.is_async=0):g=⟨g.target,g.iter,g.ifs,0⟩:=by
 cases g
 subst h
 rfl
def cnP(C:Cx)(r:Nat)(κ:Kn)(cs:aq Expr)(f:TF):Prop:=∀ ⦃env:Env⦄,KE κ env->CnV C r env cs f
def dCn(t:dTt C r)(κ:Kn)(cs:aq Expr):bc (Pk TF (cnP C r κ cs)):=cs.rec (am ⟨tK be,λq q=>CnV.nil⟩) λe es ih=>bd (t κ e) λf h=>bd ih λg hs=>am ⟨bC f g,λq k=>CnV.cons (h k) (hs k)⟩
def bP(C:Cx)(r:Nat)(κ:Kn)(elt:Expr)(gens:aq lx)(sc:rq)(pos:Pos)(j:Nat)(f:BF):Prop:=∀ ⦃env:Env⦄,KE κ env->BV C r env elt gens sc pos j f
def dBi(D:DX C)(d:dEt C r)(t:dTt C r)(κ:Kn)(elt:Expr)(gens:aq lx)(sc:rq)(pos:Pos)(n:Nat):∀ j,bc (Pk BF (bP C r κ elt gens sc pos j)):=n.rec (λq=>ba) λq ih j=>
 Option.rec (motive:=λo=>gens[j+1]? =o->bc (Pk BF (bP C r κ elt gens sc pos j))) (λhg=>bd (d κ elt) λf h=>am ⟨bA f,λq k=>BV.last (h.ok k) hg⟩)
  (λg hg=>(dIi D d κ g.iter).rec ba λR=>bd (dLi (C:=C) (r:=r) κ 4 g.target) λta ht=>bd (dCn t κ g.ifs) λc hc=>bd (ih (j+1)) λbf hb=>onB (R.b || g.target.ctorIdx.beq 25) λhT=>if ha:g.is_async=0 then
   am ⟨lZ R.K R.fi ta c bf,λq k=>BV.more (hg.trans (b3 am (cm_eq ha))) R.re (R.ok k) (ht.ok k) (hc k) (hb k) ⟨R.tg _ hT,R.nd⟩ (R.fold _)⟩ else ba) gens[j+1]? rfl
structure CP(C:Cx)(r:Nat)(κ:Kn)(elt:Expr)(gens:aq lx)(sc:rq)(pos:Pos)(f:EF):Prop where
 ok:∀ ⦃env:Env⦄,KE κ env->EV C r env (.ListComp elt gens sc pos) f
 as:∀ ⦃env:Env⦄{x:Str}{p q:Pos},KE κ env->env.kindOf x=am .local->sb (.ListComp elt gens sc pos) (am (.Name x p)) q.line env=pure be->SV C r env (.Assign [.Name x p] (.ListComp elt gens sc pos) q) (aV x f)
def dC(D:DX C)(d:dEt C r)(t:dTt C r)(κ:Kn)(elt:Expr)(gens:aq lx)(sc:rq)(pos:Pos):bc (Pk EF (CP C r κ elt gens sc pos)):=gens.casesOn ba λg gs=>g.casesOn λgt gi gf ga=>onB (csK κ sc (hidOf sc)) λhc=>
 (dIi D d κ gi).rec ba λR=>bd (dLi (C:=C) (r:=r) (cKi κ sc) 4 gt) λta ht=>bd (dCn t (cKi κ sc) gf) λc hcn=>bd (dBi D d t (cKi κ sc) elt (⟨gt,gi,gf,0⟩::gs) sc pos 4 0) λbf hb=>onB (R.b || gt.ctorIdx.beq 25) λhT=>if ha:ga=0 then
  am ⟨bU R.K (hidOf sc) R.fi ta c bf,ha.symm▸⟨λa k=>have q:=k.comp (k.cs hc).1.kind;EV.comp (k.cs hc).1 (k.cs hc).2 R.re (R.ok k) (λL=>ht.ok (q L)) (λL=>hcn (q L)) (λL=>hb (q L)) ⟨R.tg _ hT,R.nd⟩ (R.fold _),
   λa a a a k hx hs=>have q:=k.comp (k.cs hc).1.kind;SV.assignC hx hs (k.cs hc).1 (k.cs hc).2 R.re (R.ok k) (λL=>ht.ok (q L)) (λL=>hcn (q L)) (λL=>hb (q L)) ⟨R.tg _ hT,R.nd⟩ (R.fold _)⟩⟩ else ba
theorem nm_cl{e:Expr}(h:e.ctorIdx.beq 23=be):e.ctorIdx.beq 16=false:=by rw[Nat.eq_of_beq_eq_true h];rfl
def dAt(D:DX C)(d:dEt C r)(κ:Kn)(a:Expr)(x:Str)(p:Pos):bc (RE C r κ (.Attribute a x p)):=have pf:Pf (.Attribute a x p):=fZ rfl
 bd (d κ a) λf h=>orE (onB (a.ctorIdx.beq 23) λhn=>orE
   (onB (dD.contains x) λhx=>am ⟨eP x f,λq k=>EV.attr D.smc (oz.mp hx) (h.ok k) (h.pf.nb (nm_cl hn) _ _) (h.pf.lg hn),pf⟩)
   (onS x "get" (λhx=>am ⟨eBd .dget okD f,λq k=>by subst hx;exact EV.dget (h.ok k) (h.pf.nb (nm_cl hn) _ _) (h.pf.lg hn),pf⟩) ba)) <|
  onF (a.ctorIdx.beq 16) λhc=>onS x "__contains__" (λhx=>am ⟨eBd .scon okS f,λq k=>by subst hx;exact EV.scon2 (h.ok k) (h.pf.nb hc _ _),pf⟩) ba
def dE1(D:DX C)(d:dEt C r):dEt C r:=λκ e=>orE
 (onN e.ctorIdx 23 (λq=>Expr.Name.elim e q λx p=>onB (nmK κ x) λh=>am ⟨eN x,λj k=>EV.nm (k.nm h),fZ rfl⟩) <|
 onN e.ctorIdx 19 (λq=>Expr.Constant.elim e q λc k p=>dCo κ c k p) <|
 onN e.ctorIdx 2 (λq=>Expr.BinOp.elim e q λa op b p=>bd (d κ a) λf h=>bd (d κ b) λg h2=>bd (dOp (C:=C) (r:=r) op) λo ho=>am ⟨aA o f g,λj k=>EV.binOp (h.ok k) (h2.ok k) ho,fZ rfl⟩) <|
 onN e.ctorIdx 21 (λq=>Expr.Subscript.elim e q λa b p=>bd (d κ a) λf h=>bd (d κ b) λg h2=>am ⟨aA aG f g,λj k=>EV.idx (h.ok k) (h2.ok k) λo i=>⟨_,h2.pf.sub o i⟩,fZ rfl⟩) <|
 onN e.ctorIdx 15 (λq=>Expr.Compare.elim e q λl ops rs p=>dCmp d κ l ops rs p λop e f g o h h2 ho=>⟨aA o f g,λj k=>EV.cmp1 (h.ok k) (h2.ok k) ho (h2.pf.beh _),fZ rfl⟩) <|
 onN e.ctorIdx 3 (λq=>Expr.UnaryOp.elim e q λop a p=>onN op.ctorIdx 3 (λq=>UnaryOp.USub.elim (motive:=λop=>bc (RE C r κ (.UnaryOp op a p))) op q <| bd (d κ a) λf h=>am ⟨cS f,λj k=>EV.neg (h.ok k),fZ rfl⟩) ba) <|
 onN e.ctorIdx 25 (λq=>Expr.Tuple.elim e q λes k p=>bd (dEs d κ es) λf h=>am ⟨bH f,λj k=>EV.tuple (h.ok k),fZ rfl⟩) <|
 onN e.ctorIdx 24 (λq=>Expr.List.elim e q λes p=>bd (dEs d κ es) λf h=>am ⟨cX f,λj k=>EV.list (h.ok k),fZ rfl⟩) <|
 onN e.ctorIdx 6 (λq=>Expr.Dict.elim e q λks vs p=>ks.casesOn (vs.casesOn (am ⟨rX,λj j=>EV.dict0,fZ rfl⟩) λj j=>ba) λj j=>ba) <|
 onN e.ctorIdx 20 (λq=>Expr.Attribute.elim e q λa x p=>dAt D d κ a x p) <|
 onN e.ctorIdx 8 (λq=>Expr.ListComp.elim e q λelt gs sc p=>bd (dC D d (dTi D 9 d) κ elt gs sc p) λf h=>am ⟨f,h.ok,fZ rfl⟩) <|
 onN e.ctorIdx 16 (λq=>Expr.Call.elim e q λfn as ks p=>dCl D d κ fn as ks p) ba) <| D.xe d (dTi D 9 d) κ e
def dE(D:DX C)(n:Nat):dEt C r:=n.rec (λq q=>ba) λq ih=>dE1 D ih
def SP(C:Cx)(r:Nat)(κ:Kn)(st:jg)(f:SF):Prop:=∀ ⦃env:Env⦄,KE κ env->SV C r env st f
def SsP(C:Cx)(r:Nat)(κ:Kn)(st:aq jg)(f:SF):Prop:=∀ ⦃env:Env⦄,KE κ env->SVs C r env st f
noncomputable abbrev dSt(C:Cx)(r:Nat):=∀ (κ:Kn) (st:jg),bc (Pk SF (SP C r κ st))
theorem KE.ia(k:KE κ env):qW env=false:=by delta qW;rw[k.sk];rfl
def swK(κ:Kn)(x:Str)(a b:Nat)(sc:rq):ec:=ScopeKind.function==ScopeKind.function && κ x==am .local && a==b && !(sc.names.any fun(n,k)=>n==x && (k== .local || k== .cell))
theorem KE.bk(k:KE κ env):env.blockKind= .function:=by unfold Env.blockKind;refine rwL k.sk ?_;rfl
theorem KE.sw(k:KE κ env){a:Expr}{b:rq}:sb (.ListComp a gs b q) (am (.Name x p)) l env=pure (swK κ x p.line q.line b):=by
 show pure (env.blockKind== .function && env.kindOf x==am .local && p.line==q.line && !(b.names.any fun(n,k)=>n==x && (k== .local || k== .cell)))=_
 refine rwL k.bk (rwL k.kd ?_);rfl
theorem aHj{a b:Nat}(h:swK κ x a b c=be):κ x=am .local:=se (du.mp (du.mp (du.mp h).1).1).2
def isSt(e:Expr):ec:=swappedStores.match_5 (λq=>ec) e (λq q=>be) λq=>false
def nms(κ:Kn)(ts:aq Expr):aq Str:=ts.filterMap λx=>swappedStores.match_8 (λq=>bc Str) x (λid pos=>if κ id==am .local && pos.line==(ts.head?.map (·.pos.line)).getD 0 then am id else ba) λq=>ba
def w1(ts vs:aq Expr):ec:= !(ts.length==2 || ts.length==3) || vs.length != ts.length || ScopeKind.function != ScopeKind.function
def w2(κ:Kn)(ts:aq Expr):ec:=(nms κ ts).length != ts.length || (nms κ ts).eraseDups.length != (nms κ ts).length
theorem itT{α:Type}{a b:ec}{x y:α}(h:(a || b)=be)(k:b=be->y=x):(if a=be then x else y)=x:=by
 cases a with
 |true=>rfl
 |false=>exact k h
theorem itF{α:Type}{a b:ec}{x y z:α}(h:(a || b)=false)(k:b=false->y=z):(if a=be then x else y)=z:=by
 cases a with
 |true=>cases h
 |false=>exact k h
theorem KE.s0(k:KE κ env){a:aq Expr}(h:(w1 a vs || (vs.any isSt || (w2 κ a || vs.all (th 8))))=be):kf [.Tuple a n p] (.Tuple vs m q) env=pure ba:=by
 cases k.kd
 delta kf
 exact rwL k.bk (itT h λh=>itT h λh=>itT h λh=>ca h)
theorem KE.s1(k:KE κ env){a:aq Expr}(h:(w1 a vs || (vs.any isSt || (w2 κ a || (vs.all (th 8) || vs.all (constantsAlone 8)))))=false):kf [.Tuple a n p] (.Tuple vs m q) env=pure (am (nms κ a)):=by
 cases k.kd
 delta kf
 exact rwL k.bk (itF h λh=>itF h λh=>itF h λh=>itF h λh=>bz (by exact rwL h Bool.false_ne_true))
def dAg(D:DX C)(d:dEt C r)(κ:Kn)(t e:Expr)(pos:Pos):bc (Pk SF (SP C r κ (.Assign [t] e pos))):=bd (d κ e) λf h=>onF (e.ctorIdx.beq 8) λhl=>bd (dA D d κ 4 t) λg hg=>onF (t.ctorIdx.beq 25 && e.ctorIdx.beq 25) λht=>
 am ⟨dF f g,λq k=>SV.assigns (h.ok k) (ALs.one (hg.ok k) (by rw[hg.st];rfl)) (h.pf.sw hl _ _ _) (hg.s1 _ _ h.pf ht)⟩
def dAn(D:DX C)(d:dEt C r)(κ:Kn)(x:Str)(p:Pos)(e:Expr)(pos:Pos):bc (Pk SF (SP C r κ (.Assign [.Name x p] e pos))):=onB (stK κ x) λhs=>orE
 (onN e.ctorIdx 8 (λq=>Expr.ListComp.elim e q λelt gs sc q=>bd (dC D d (dTi D 9 d) κ elt gs sc q) λf h=>
  am ⟨aV x f,λa k=>(Bool.eq_false_or_eq_true (swK κ x p.line q.line sc)).elim (λhw=>h.as k (by rw[k.kd];exact aHj hw) (by rw[k.sw,hw])) λhw=>SV.assign (h.ok k) (k.s_ hs) (by rw[k.sw,hw])⟩) ba) <|
 bd (d κ e) λf h=>onF (e.ctorIdx.beq 8) λhl=>am ⟨aV x f,λa k=>SV.assign (h.ok k) (k.s_ hs) (h.pf.sw hl _ _ _)⟩
def dAt2(D:DX C)(d:dEt C r)(κ:Kn)(ts vs:aq Expr)(n m:Nat)(p q:Pos)(pos:Pos):bc (Pk SF (SP C r κ (.Assign [.Tuple ts n p] (.Tuple vs m q) pos))):=bd (d κ (.Tuple vs m q)) λf h=>orE
 (onB (w1 ts vs || (vs.any isSt || (w2 κ ts || vs.all (th 8)))) λh1=>bd (dA D d κ 4 (.Tuple ts n p)) λg hg=>am ⟨dF f g,λenv k=>SV.assigns (h.ok k) (ALs.one (hg.ok k) (by rw[hg.st];rfl)) (h.pf.sw rfl (am (.Tuple ts n p)) pos.line env) (k.s0 h1)⟩) <|
 onF (w1 ts vs || (vs.any isSt || (w2 κ ts || (vs.all (th 8) || vs.all (constantsAlone 8))))) λh2=>onB ((nms κ ts).all (stK κ)) λh3=>am ⟨cN (nms κ ts) f,λenv k=>SV.swap (h.ok k) (h.pf.sw rfl (am (.Tuple ts n p)) pos.line env) (k.s1 h2) (k.st h3)⟩
structure HP(C:Cx)(r:Nat)(κ:Kn)(ts:aq Expr)(f:AF):Prop where
 ok:∀ ⦃env:Env⦄,KE κ env->ALs C r env ts f
 ne:∀ env,∃ x xs,(gj ts env).map (·.2)=x::xs
def dH(D:DX C)(d:dEt C r)(κ:Kn)(ts:aq Expr):∀ t,bc (Pk AF (HP C r κ (t::ts))):=ts.rec
 (λt=>bd (dA D d κ 4 t) λg h=>am ⟨g,λq k=>ALs.one (h.ok k) (by rw[h.st];rfl),λq=>by rw[h.st];exact⟨_,_,rfl⟩⟩)
 λt2 ts ih t=>bd (dA D d κ 4 t) λg h=>bd (ih t2) λf hs=>am ⟨iY g f,λenv k=>ALs.cons (h.ok k) (hs.ok k) (by rw[h.st];rfl) (hs.ne env),λq=>by rw[h.st];exact⟨_,_,rfl⟩⟩
def dA2(D:DX C)(d:dEt C r)(κ:Kn)(t t2:Expr)(ts:aq Expr)(e:Expr)(pos:Pos):bc (Pk SF (SP C r κ (.Assign (t::t2::ts) e pos))):=bd (d κ e) λf h=>bd (dA D d κ 4 t) λq h2=>bd (dH D d κ (t2::ts) t) λg hg=>am ⟨dF f g,λq k=>SV.assigns (h.ok k) (hg.ok k) rfl (h2.s2 _ _ _ _)⟩
def dSs(s:dSt C r)(κ:Kn)(l:aq jg):bc (Pk SF (SsP C r κ l)):=l.rec (am ⟨sK .next,λq q=>SVs.nil⟩) λe es ih=>bd (s κ e) λf h=>bd ih λg hs=>am ⟨aB f g,λq k=>SVs.cons (h k) (hs k)⟩
def dS1(D:DX C)(s:dSt C r):dSt C r:=λκ st=>
 orE (onN st.ctorIdx 5 (λq=>Stmt.Assign.elim st q λts e pos=>ts.casesOn ba λt ts=>orE
  (ts.casesOn (onN t.ctorIdx 23 (λq=>Expr.Name.elim t q λx p=>dAn D (dE D 12) κ x p e pos) <| orE
   (onN t.ctorIdx 25 (λq=>Expr.Tuple.elim t q λts n p=>onN e.ctorIdx 25 (λq=>Expr.Tuple.elim e q λvs m q=>dAt2 D (dE D 12) κ ts vs n m p q pos) ba) ba) <|
   dAg D (dE D 12) κ t e pos) λd d=>ba) <|
  ts.casesOn ba λt2 ts=>dA2 D (dE D 12) κ t t2 ts e pos) <|
 onN st.ctorIdx 24 (λq=>Stmt.Expr.elim st q λe p=>orE
  (onN e.ctorIdx 19 (λq=>Expr.Constant.elim e q λc a b=>onN c.ctorIdx 5 (λq=>Const.str.elim (motive:=λc=>bc (Pk SF (SP C r κ (.Expr (.Constant c a b) p)))) c q λx=>am ⟨sK .next,λd k=>SV.doc k.ia rfl⟩) ba) ba) <|
  bd (dE D 12 κ e) λf h=>onF (e.ctorIdx.beq 8) λhl=>am ⟨bE f,λd k=>SV.expr (h.ok k) k.ia (h.pf.sw hl _ _ _)⟩) <|
 onN st.ctorIdx 12 (λq=>Stmt.If.elim st q λt a b p=>bd (dTi D 9 (dE D 12) κ t) λc hc=>bd (dSs s κ b) λg h2=>orE (bd (dSs s κ a) λf h=>am ⟨sIf c f g,λd k=>SV.ite (hc k) (h k) (h2 k)⟩) <| some ⟨sIf c sNo g,λd k=>SV.ite (hc k) SVs.no (h2 k)⟩) <|
 onN st.ctorIdx 9 (λq=>Stmt.For.elim st q λt i b o p=>o.casesOn ((dIi D (dE D 12) κ i).rec ba λR=>bd (dA D (dE D 12) κ 4 t) λg hg=>bd (dSs s κ b) λf h=>onB (R.b || t.ctorIdx.beq 25) λht=>am ⟨gP R.K R.fi g f,λd k=>SV.for_ (R.ok k) (hg.ok k) (h k) ⟨R.tg _ ht,R.nd⟩ (R.fold _)⟩) λd d=>ba) <|
 onN st.ctorIdx 3 (λq=>Stmt.Return.elim st q λe p=>e.casesOn (am ⟨sK (.ret .none),λd d=>SV.ret0⟩) λe=>bd (dE D 12 κ e) λf h=>am ⟨dQ f,λd k=>SV.ret (h.ok k)⟩) <|
 onN st.ctorIdx 11 (λq=>Stmt.While.elim st q λt b o p=>o.casesOn (bd (dTi D 9 (dE D 12) κ t) λc hc=>bd (dSs s κ b) λf h=>am ⟨fK c f,λd k=>SV.while_ (hc k) (h k)⟩) λd d=>ba) <|
 onN st.ctorIdx 7 (λq=>Stmt.AugAssign.elim st q λt op e pos=>onN op.ctorIdx 0 (λq=>Operator.Add.elim (motive:=λop=>bc (Pk SF (SP C r κ (.AugAssign t op e pos)))) op q <| onN t.ctorIdx 23 (λq=>Expr.Name.elim t q λx p=>bd (dE D 12 κ e) λf h=>onB (stK κ x) λhs=>onF (x==("__classdict__" :Str)) λhc=>am ⟨sH x nR f,λd k=>SV.aug (h.ok k) OpR.iadd (k.s_ hs) hc⟩) ba) ba) <|
 onN st.ctorIdx 25 (λq=>Stmt.Pass.elim st q λp=>am ⟨sK .next,λd d=>SV.pass⟩) <|
 onN st.ctorIdx 26 (λq=>Stmt.Break.elim st q λp=>am ⟨sK .brk,λd d=>SV.brk⟩) <|
 onN st.ctorIdx 27 (λq=>Stmt.Continue.elim st q λp=>am ⟨sK .cont,λd d=>SV.cont⟩) ba) (D.xs (dE D 12) κ st)
def dS(D:DX C)(n:Nat):dSt C r:=n.rec (λq q=>ba) λq ih=>dS1 D ih
theorem dS_ok(D:DX C){st:jg}(k:env.scope.kind= .function)(h:gtO (dS (r:=r) D 9 env.kindOf st)=am f):SV C r env st f:=vC h ⟨rfl,k⟩
theorem cU(D:DX C){st:aq jg}(k:env.scope.kind= .function)(h:gtO (dSs (r:=r) (dS D 9) env.kindOf st)=am f):SVs C r env st f:=vC h ⟨rfl,k⟩
theorem aGi(D:DX C)(k:env.scope.kind= .function)(h:gtO (dE (r:=r) D 12 env.kindOf e)=am f):EV C r env e f:=(vC h).ok ⟨rfl,k⟩
theorem aGf(D:DX C)(k:env.scope.kind= .function)(h:gtO (dTi (r:=r) D 9 (dE D 12) env.kindOf e)=am f):TV C r env e f:=vC h ⟨rfl,k⟩
def xIfE(d:dEt C r)(t:dTt C r)(κ:Kn)(e:Expr):bc (RE C r κ e):=onN e.ctorIdx 5 (λq=>Expr.IfExp.elim e q λc a b p=>bd (t κ c) λg h0=>bd (d κ a) λf h=>bd (d κ b) λf2 h2=>
 am ⟨eIf g f f2,λi k=>EV.ifExp (h0 k) (h.ok k) (h2.ok k),fZ rfl⟩) ba
def xMe(d:dEt C r)(κ:Kn)(e:Expr)(k:∀ o m ap as pos f,EP C r κ o f->o.ctorIdx.beq 16=false->(ap.endLine==pos.line)=be->bc (RE C r κ (.Call (.Attribute o m ap) as [] pos))):bc (RE C r κ e):=onN e.ctorIdx 16 (λq=>Expr.Call.elim e q λfn as ks p=>ks.casesOn (onN fn.ctorIdx 20 (λq=>Expr.Attribute.elim fn q λo m ap=>bd (d κ o) λf h=>onF (o.ctorIdx.beq 16) λhc=>onB (ap.endLine==p.line) λhk=>k o m ap as p f h hc hk) ba) λa a=>ba) ba
def xExt(d:dEt C r)(κ:Kn)(e:Expr):bc (RE C r κ e):=xMe d κ e λo m ap as pos f h hc hk=>onS m "extend" (λq=>as.casesOn ba λe z=>z.casesOn (bd (d κ e) λf2 h2=>am ⟨xV f f2,λa k=>by subst q;exact EV.extend (h.ok k) (h2.ok k) (mshape h.pf hc (es1 h2) rfl hk) (bk1 h2.pf _ _),pfC⟩) λa a=>ba) ba
def pP(C:Cx)(r:Nat)(κ:Kn)(o:bc Expr)(f:EF):Prop:=∀ ⦃env:Env⦄,KE κ env->PV C r env o f
def dPi(d:dEt C r)(κ:Kn)(o:bc Expr):bc (Pk EF (pP C r κ o)):=o.casesOn (am ⟨eK .none,λq q=>PV.none⟩) λe=>bd (d κ e) λf h=>am ⟨f,λq k=>PV.some (h.ok k)⟩
theorem pfS{a:Expr}:Pf (.Subscript a s p):=fZ rfl
def xSl(d:dEt C r)(κ:Kn)(e:Expr):bc (RE C r κ e):=onN e.ctorIdx 21 (λq=>Expr.Subscript.elim e q λa s p=>bd (d κ a) λf h=>onN s.ctorIdx 26 (λq=>Expr.Slice.elim s q λl u st q=>
 bd (dPi d κ l) λf1 h1=>bd (dPi d κ u) λf2 h2=>st.casesOn (motive:=λst=>bc (RE C r κ (.Subscript a (.Slice l u st q) p))) (am ⟨eX f f1 f2 (eK .none),λb k=>EV.slice (h.ok k) (h1 k) (h2 k),pfS⟩) λst=>bd (d κ st) λf3 h3=>am ⟨eX f f1 f2 f3,λb k=>EV.slice3 (h.ok k) (h1 k) (h2 k) (h3.ok k),pfS⟩) ba) ba
def tCha(d:dEt C r)(κ:Kn)(e:Expr):bc (RT C r κ e):=onN e.ctorIdx 15 (λq=>Expr.Compare.elim e q λl ops rs p=>ops.casesOn ba λo1 z=>z.casesOn ba λo2 z=>z.casesOn (rs.casesOn ba λa z=>z.casesOn ba λb z=>z.casesOn (bd (d κ l) λf h=>bd (d κ a) λf1 h1=>bd (d κ b) λf2 h2=>bd (dCm (C:=C) (r:=r) o1) λg hg=>bd (dCm (C:=C) (r:=r) o2) λg2 hg2=>am ⟨tCh g g2 f f1 f2,λc k=>TV.chain (h.ok k) (h1.ok k) (h2.ok k) hg hg2 (h2.pf.beh _)⟩) λc c=>ba) λc c=>ba) ba
theorem XX.mf(X:XX C)(h:kh)(a:∀ b o,C.base.heap.get? b=am o->h.get? b=am o):uH C.M h:=mfacts X.kc X.km.bases (X.kc.mem.keeps a)
def ktL:Kti C:=⟨bB C,iL,IV.list,gR.list,λq=>trivial⟩
def ktR:Kti C:=⟨kU C,iR,IV.range,gR.range,λq=>trivial⟩
def kt0(e:Expr):Kti C:=(onN e.ctorIdx 23 (λq=>Expr.Name.elim e q λx a=>onS x "inner" (λa=>am ktR) ba) <| onN e.ctorIdx 16 (λq=>Expr.Call.elim e q λfn a a a=>onN fn.ctorIdx 23 (λq=>Expr.Name.elim fn q λx a=>onS x "range" (λa=>am ktR) ba) ba) ba).getD ktL
theorem pfN:Pf (.Name x p):=fZ rfl
def XX.xn(d:dEt C r)(t:dTt C r)(κ:Kn)(e:Expr):bc (RE C r κ e):=onN e.ctorIdx 16 (λq=>Expr.Call.elim e q λfn as ks p=>ks.casesOn (onN fn.ctorIdx 20 (λq=>Expr.Attribute.elim fn q λo m ap=>onN o.ctorIdx 23 (λq=>Expr.Name.elim o q λy np=>onS y "tuple" (λht=>onS m "__new__" (λhm=>
  onB (glK κ "tuple") λhg=>onB (ap.endLine==p.line) λhk=>onB (as.length.blt 30) λhl=>bd (dEs d κ as) λg hs=>am ⟨aAl g,λa k=>by subst ht hm;exact EV.tnew X.mf X.g_tuple (k.gl hg).1 (hs.ok k) (hs.fl _) (mshape pfN rfl hs hl hk),pfC⟩) ba) ba) ba) ba) λa a=>ba) ba
def fn0(x:Str)(cv:CV C r0 v g)(gl:Glo C x v)(n:Nat:=99):Fn C:=⟨x,n,v,r0,g,cv,gl⟩
def me0(x:Str){a:d3}(cv:CV C r0 (.ref a) g)(hm:fA.contains (x,a)=be)(n:Nat:=99):Mth C:=⟨x,n,a,r0,g,cv,hm⟩
def XX.D2(T:aq (Fn C)):DX C:=⟨X.smc,T,[],kt0,_,X.km,⟨X.g_enumerate,X.g_zip⟩,X.sys,X.xn,λq q q=>ba,λq q q=>ba⟩
def XX.Tb:aq (Fn C):=[fn0 (r0:=0) "len" (CV.lenM X.km) X.g_len,fn0 (r0:=0) "range" CV.range X.g_range,fn0 (r0:=0) "max" CV.max X.g_max,fn0 (r0:=0) "min" CV.min X.g_min,fn0 (r0:=0) "set" CV.set X.g_set]
def aI8(X:XX C):SF:=(sK .next)
def aI7(X:XX C):SF:=(dQ (aAl (esC (eN "_cls") (esC (bH (esC (eN "a") (esC (eN "b") (esC (eN "size") esN)))) esN))))
def f_new:SF:=(aB (aI8 X) (aB (aI7 X) (sK .next)))
theorem sv_new(P:ft)(L:d3):SVs C 1 (kq (bD (o82 P)) L 82) (cK (stB 3 4)) (f_new X):=cU (X.D2 []) rfl ⋯
def aFw(X:XX C):SF:=(sK .next)
def aFv(X:XX C):SF:=(aV "result" (aAl (esC (eN "cls") (esC (eN "iterable") esN))))
def aFu(X:XX C):SF:=(sIf (tE (aA (aX not) (aJ b5 (esC (eN "result") esN)) (eK (.int 3)))) sNo (sK .next))
def aFt(X:XX C):SF:=(dQ (eN "result"))
def f_make:SF:=(aB (aFw X) (aB (aFv X) (aB (aFu X) (aB (aFt X) (sK .next)))))
theorem aHk(P:ft)(L:d3):SVs C 1 (kq (bD (o89 P)) L 89) (cK (stB 3 5)) (f_make X):=cU (X.D2 X.Tb) rfl ⋯
theorem XX.newM(X:XX C):NewM C 2:=by
 intro A s ρ H a b c i j k g S d f e
 exact jT X.d_new ⋯ X.b_new (λq q=>.nil) (c7 ⋯) (λL=>sv_new X X.w.params L) g S (.cons (.raw _) (.cons d (.cons f (.cons e .nil)))) ⟨rfl,(show _=(3<100/\(V.mat i j k=V.mat i j k/\H=H)) by kernel_rfl).mpr ⟨by decide,rfl,rfl⟩⟩
theorem XX.makeM(X:XX C):qS C 2:=by
 intro A s ρ H a i j k c S b
 exact jT X.d_make ⋯ X.b_make (λq q=>.nil) (c7 ⋯) (λL=>aHk X X.w.params L) c S (.cons (.raw _) (.cons b .nil)) ⟨rfl,(show _=(V.mat i j k=V.mat i j k/\H=H) by kernel_rfl).mpr ⟨rfl,rfl⟩⟩
theorem XX.cv_Match(X:XX C):CV C 3 (.ref aF) yI:=CV.mat X.kc X.newM
def XX.xm(d:dEt C r)(t:dTt C r)(κ:Kn)(e:Expr):bc (RE C r κ e):=r.casesOn (motive:=λr=>dEt C r->bc (RE C r κ e)) (λc=>ba) (λr d=>onN e.ctorIdx 16 (λq=>Expr.Call.elim e q λfn as ks p=>ks.casesOn (orE
 (onN fn.ctorIdx 20 (λq=>Expr.Attribute.elim fn q λo m ap=>onS m "sort" (λhm=>as.casesOn (bd (d κ o) λf h=>onF (o.ctorIdx.beq 16) λhc=>onB (ap.endLine==p.line) λhk=>
  am ⟨aF9 f,λc k=>by subst hm;exact EV.sort X.km (h.ok k) (mshape h.pf hc (es0 (C:=C) (r:=r) (κ:=κ)) rfl hk),pfC⟩) λc c=>ba) ba) ba) <|
 onN fn.ctorIdx 23 (λq=>Expr.Name.elim fn q λl p1=>onS l "list" (λhl=>as.casesOn ba λa z=>z.casesOn (onN a.ctorIdx 16 (λq=>Expr.Call.elim a q λg bs ks p5=>
  ks.casesOn (onN g.ctorIdx 23 (λq=>Expr.Name.elim g q λm p2=>onS m "map" (λhm=>bs.casesOn ba λb z=>z.casesOn ba λe z=>z.casesOn (onN b.ctorIdx 20 (λq=>Expr.Attribute.elim b q λo x p4=>onS x "_make" (λhx=>onN o.ctorIdx 23 (λq=>Expr.Name.elim o q λt p3=>onS t "Match" (λht=>
    onB (ble 3 r) λhr=>onB (glK κ "list") λg1=>onB (glK κ "map") λg2=>onB (glK κ "Match") λg3=>bd (d κ e) λf h=>am ⟨eLM (s6 C 2 X.makeM) (λi=>(i,0)) f,λc k=>by
     subst hl hm ht hx
     exact EV.listMap X.kc X.makeM (iH hr) (h.ok k) X.g_list X.g_map X.g_Match (k.gl g1).1 (k.gl g2).1 (k.gl g3).1 rfl rfl (h.pf.star _ _) (λc=>rfl) (λc=>by show(false || (lr _ (e9 [e] _)).any (·.1))=false;rw[h.pf.star];rfl) rfl (λc c=>rfl),pfC⟩) ba) ba) ba) ba) λc c=>ba) ba) ba) λc c=>ba) ba) λc c=>ba) ba) ba) λc c=>ba) ba) d
def XX.D0(M:aq (Mth C)):DX C:=⟨X.smc,fn0 "Match" X.cv_Match X.g_Match::X.Tb,M,kt0,_,X.km,⟨X.g_enumerate,X.g_zip⟩,X.sys,X.xm,λq q q=>ba,λq q q=>ba⟩
def tX(X:XX C):SF:=(sK .next)
def tW(X:XX C):SF:=(sIf (tE (aA (oIs id) (eN "a") (eP "a" (eN "self")))) (aB (sK (.ret .none)) (sK .next)) (sK .next))
def tV(X:XX C):SF:=(dF (eN "a") (eZ "a" (eN "self")))
def tU(X:XX C):SF:=(dF (eK .none) (iY (eZ "matching_blocks" (eN "self")) (eZ "opcodes" (eN "self"))))
def qK:SF:=(aB (tX X) (aB (tW X) (aB (tV X) (aB (tU X) (sK .next)))))
def iW:CF:=jG ["self","a"] [] (qK X)
theorem wD:CV C 2 (.ref 174) (iW X):=CV.def_ X.d_set_seq1 ⋯ X.b_set_seq1 (λq q=>.nil) (c7 ⋯) (λL=>(cU (X.D0 []) rfl ⋯))
def XX.M_set_seq1:aq (Mth C):=me0 "set_seq1" (wD X) rfl::[]
def v7(X:XX C):SF:=(aV "b" (eP "b" (eN "self")))
def v6(X:XX C):SF:=(dF rX (iY (eZ "b2j" (eN "self")) (aN "b2j")))
def chB:SF:=aB (aV "indices" (aAm (eN "b2j") (eN "elt") (cX esN))) (aB (bE (c9 (eN "indices") (eN "i"))) (sK .next))
def v4(X:XX C):SF:=(gP (lN C) (iL (eN "b")) (cM 2 (asC (aN "i") (asC (aN "elt") asN))) chB)
def nD(X:XX C):SF:=(dF (aJ cSet esN) (iY (eZ "bjunk" (eN "self")) (aN "junk")))
def nC(X:XX C):SF:=(aV "isjunk" (eP "isjunk" (eN "self")))
def nA(X:XX C):SF:=(sIf (tE (eN "isjunk")) sNo (sK .next))
def m9(X:XX C):SF:=(dF (aJ cSet esN) (iY (eZ "bpopular" (eN "self")) (aN "popular")))
def m8(X:XX C):SF:=(aV "n" (aJ b5 (esC (eN "b") esN)))
def m7(X:XX C):SF:=(sIf (bC (tE (eP "autojunk" (eN "self"))) (bC (tE (aA oGe (eN "n") (eK (.int 200)))) (tK be))) sNo (sK .next))
def aAt:SF:=aB (nD X) (aB (nC X) (aB (nA X) (aB (m9 X) (aB (m8 X) (aB (m7 X) (sK .next))))))
def rT:SF:=(aB (v7 X) (aB (v6 X) (aB (v4 X) (aAt X))))
def fX:CF:=jG ["self"] [] (rT X)
theorem yA:CV C 2 (.ref 188) (fX X):=CV.def_ X.d_chain_b ⋯ X.b_chain_b (λq q=>.nil) (c7 ⋯) (λL=>(cU (X.D0 X.M_set_seq1) rfl ⋯))
def XX.M_chain_b:aq (Mth C):=me0 "_SequenceMatcher__chain_b" (yA X) rfl::X.M_set_seq1
def tT(X:XX C):SF:=(sK .next)
def tS(X:XX C):SF:=(sIf (tE (aA (oIs id) (eN "b") (eP "b" (eN "self")))) (aB (sK (.ret .none)) (sK .next)) (sK .next))
def tR(X:XX C):SF:=(dF (eN "b") (eZ "b" (eN "self")))
def tQ:SF:=(tU X)
def tP(X:XX C):SF:=(dF (eK .none) (eZ "fullbcount" (eN "self")))
def tO:SF:=(bE (cW (fX X) (eN "self") esN))
def qJ:SF:=(aB (tT X) (aB (tS X) (aB (tR X) (aB (tQ X) (aB (tP X) (aB (tO X) (sK .next)))))))
def iV:CF:=jG ["self","b"] [] (qJ X)
theorem wC:CV C 3 (.ref 181) (iV X):=CV.def_ X.d_set_seq2 ⋯ X.b_set_seq2 (λq q=>.nil) (c7 ⋯) (λL=>(cU (X.D0 X.M_chain_b) rfl ⋯))
def XX.M_set_seq2:aq (Mth C):=me0 "set_seq2" (wC X) rfl::X.M_chain_b
def tN(X:XX C):SF:=(sK .next)
def tM:SF:=(bE (cW (iW X) (eN "self") (esC (eN "a") esN)))
def tL:SF:=(bE (cW (iV X) (eN "self") (esC (eN "b") esN)))
def qI:SF:=(aB (tN X) (aB (tM X) (aB (tL X) (sK .next))))
def iU:CF:=jG ["self","a","b"] [] (qI X)
theorem wB:CV C 4 (.ref 167) (iU X):=CV.def_ X.d_set_seqs ⋯ X.b_set_seqs (λq q=>.nil) (c7 ⋯) (λL=>(cU (X.D0 X.M_set_seq2) rfl ⋯))
def XX.M_set_seqs:aq (Mth C):=me0 "set_seqs" (wB X) rfl::X.M_set_seq2
def iM(X:XX C):SF:=(sK .next)
def cR(X:XX C):SF:=(dF (bH (esC (eP "a" (eN "self")) (esC (eP "b" (eN "self")) (esC (eP "b2j" (eN "self")) (esC (eBd .scon okS (eP "bjunk" (eN "self"))) esN))))) (cM 4 (asC (aN "a") (asC (aN "b") (asC (aN "b2j") (asC (aN "isbjunk") asN))))))
def eM(X:XX C):SF:=(sIf (tE (aA (oIs id) (eN "ahi") (eK .none))) (aB (aV "ahi" (aJ b5 (esC (eN "a") esN))) (sK .next)) (sK .next))
def eL(X:XX C):SF:=(sIf (tE (aA (oIs id) (eN "bhi") (eK .none))) (aB (aV "bhi" (aJ b5 (esC (eN "b") esN))) (sK .next)) (sK .next))
def eJ(X:XX C):SF:=(cN ["besti","bestj","bestsize"] (bH (esC (eN "alo") (esC (eN "blo") (esC (eK (.int 0)) esN)))))
def eI(X:XX C):SF:=(aV "j2len" rX)
def eG(X:XX C):SF:=(aV "nothing" (cX esN))
def aGn:SF:=aB (sIf (tE (aA oGt (eN "k") (eN "bestsize"))) (aB (cN ["besti","bestj","bestsize"] (bH (esC (aA aH (aA bL (eN "i") (eN "k")) (eK (.int 1))) (esC (aA aH (aA bL (eN "j") (eN "k")) (eK (.int 1))) (esC (eN "k") esN))))) (sK .next)) (sK .next)) (sK .next)
def colB3:SF:=aB (dF (aA aH (eCv (eN "j2lenget") (esC (aA bL (eN "j") (eK (.int 1))) (esC (eK (.int 0)) esN))) (eK (.int 1))) (iY (aN "k") (uG (eN "newj2len") (eN "j")))) aGn
def t8:SF:=aB (sIf (tE (aA oLt (eN "j") (eN "blo"))) (aB (sK .cont) (sK .next)) (sK .next)) (aB (sIf (tE (aA oGe (eN "j") (eN "bhi"))) (aB (sK .brk) (sK .next)) (sK .next)) colB3)
def eF(X:XX C):SF:=(gP (kU C) (iR (aJ gN (esC (eN "alo") (esC (eN "ahi") esN)))) (aN "i") (aB (aV "j2lenget" (eBd .dget okD (eN "j2len"))) (aB (aV "newj2len" rX) (aB (gP (bB C) (iL (eGet (eN "b2j") (aA aG (eN "a") (eN "i")) (eN "nothing"))) (aN "j") t8) (aB (aV "j2len" (eN "newj2len")) (sK .next))))))
def eE(X:XX C):SF:=(fK (bC (tE (aA oGt (eN "besti") (eN "alo"))) (bC (tE (aA oGt (eN "bestj") (eN "blo"))) (bC (tNot (tE (eCv (eN "isbjunk") (esC (aA aG (eN "b") (aA bL (eN "bestj") (eK (.int 1)))) esN)))) (bC (tE (aA (aX id) (aA aG (eN "a") (aA bL (eN "besti") (eK (.int 1)))) (aA aG (eN "b") (aA bL (eN "bestj") (eK (.int 1)))))) (tK be))))) (aB (cN ["besti","bestj","bestsize"] (bH (esC (aA bL (eN "besti") (eK (.int 1))) (esC (aA bL (eN "bestj") (eK (.int 1))) (esC (aA aH (eN "bestsize") (eK (.int 1))) esN))))) (sK .next)))
def eD(X:XX C):SF:=(fK (bC (tE (aA oLt (aA aH (eN "besti") (eN "bestsize")) (eN "ahi"))) (bC (tE (aA oLt (aA aH (eN "bestj") (eN "bestsize")) (eN "bhi"))) (bC (tNot (tE (eCv (eN "isbjunk") (esC (aA aG (eN "b") (aA aH (eN "bestj") (eN "bestsize"))) esN)))) (bC (tE (aA (aX id) (aA aG (eN "a") (aA aH (eN "besti") (eN "bestsize"))) (aA aG (eN "b") (aA aH (eN "bestj") (eN "bestsize"))))) (tK be))))) (aB (sH "bestsize" nR (eK (.int 1))) (sK .next)))
def d4(X:XX C):SF:=(fK (bC (tE (aA oGt (eN "besti") (eN "alo"))) (bC (tE (aA oGt (eN "bestj") (eN "blo"))) (bC (tE (eCv (eN "isbjunk") (esC (aA aG (eN "b") (aA bL (eN "bestj") (eK (.int 1)))) esN))) (bC (tE (aA (aX id) (aA aG (eN "a") (aA bL (eN "besti") (eK (.int 1)))) (aA aG (eN "b") (aA bL (eN "bestj") (eK (.int 1)))))) (tK be))))) (aB (cN ["besti","bestj","bestsize"] (bH (esC (aA bL (eN "besti") (eK (.int 1))) (esC (aA bL (eN "bestj") (eK (.int 1))) (esC (aA aH (eN "bestsize") (eK (.int 1))) esN))))) (sK .next)))
def dZ(X:XX C):SF:=(fK (bC (tE (aA oLt (aA aH (eN "besti") (eN "bestsize")) (eN "ahi"))) (bC (tE (aA oLt (aA aH (eN "bestj") (eN "bestsize")) (eN "bhi"))) (bC (tE (eCv (eN "isbjunk") (esC (aA aG (eN "b") (aA aH (eN "bestj") (eN "bestsize"))) esN))) (bC (tE (aA (aX id) (aA aG (eN "a") (aA aH (eN "besti") (eN "bestsize"))) (aA aG (eN "b") (aA aH (eN "bestj") (eN "bestsize"))))) (tK be))))) (aB (aV "bestsize" (aA aH (eN "bestsize") (eK (.int 1)))) (sK .next)))
def iB(X:XX C):SF:=(dQ (aJ yI (esC (eN "besti") (esC (eN "bestj") (esC (eN "bestsize") esN)))))
def c8:SF:=(aB (iM X) (aB (cR X) (aB (eM X) (aB (eL X) (aB (eJ X) (aB (eI X) (aB (eG X) (aB (eF X) (aB (eE X) (aB (eD X) (aB (d4 X) (aB (dZ X) (aB (iB X) (sK .next))))))))))))))
def bV:CF:=jG ["self","alo","ahi","blo","bhi"] [] (c8 X)
theorem jF:CV C 4 (.ref 196) (bV X):=CV.def_ X.d_find_longest_match ⋯ X.b_find_longest_match (λq q=>.nil) (c7 ⋯) (λL=>(cU (X.D0 X.M_set_seqs) rfl ⋯))
def XX.M_find_longest_match:aq (Mth C):=me0 "find_longest_match" (jF X) rfl::X.M_set_seqs
def iA(X:XX C):SF:=(sK .next)
def cG(X:XX C):SF:=(dQ (eP "matching_blocks" (eN "self")))
def hZ:SF:=(sIf (tE (aA (oIs not) (eP "matching_blocks" (eN "self")) (eK .none))) (aB (cG X) (sK .next)) (sK .next))
def dY(X:XX C):SF:=(cN ["la","lb"] (bH (esC (aJ b5 (esC (eP "a" (eN "self")) esN)) (esC (aJ b5 (esC (eP "b" (eN "self")) esN)) esN))))
def bZ(X:XX C):SF:=(aV "queue" (cX (esC (bH (esC (eK (.int 0)) (esC (eN "la") (esC (eK (.int 0)) (esC (eN "lb") esN))))) esN)))
def bY(X:XX C):SF:=(aV "matching_blocks" (cX esN))
def gP2:SF:=aB (bE (c9 (eN "queue") (bH (esC (aA aH (eN "i") (eN "k")) (esC (eN "ahi") (esC (aA aH (eN "j") (eN "k")) (esC (eN "bhi") esN))))))) (sK .next)
def gJ:SF:=aB (sIf (bC (tE (aA oLt (aA aH (eN "i") (eN "k")) (eN "ahi"))) (bC (tE (aA oLt (aA aH (eN "j") (eN "k")) (eN "bhi"))) (tK be))) gP2 (sK .next)) (sK .next)
def gP1:SF:=aB (bE (c9 (eN "queue") (bH (esC (eN "alo") (esC (eN "i") (esC (eN "blo") (esC (eN "j") esN))))))) (sK .next)
def gH:SF:=aB (sIf (bC (tE (aA oLt (eN "alo") (eN "i"))) (bC (tE (aA oLt (eN "blo") (eN "j"))) (tK be))) gP1 (sK .next)) gJ
def gA:SF:=aB (bE (c9 (eN "matching_blocks") (eN "x"))) gH
def gI(X:XX C):SF:=aB (sIf (tE (eN "k")) gA (sK .next)) (sK .next)
def gF:SF:=aB (dF (cW (bV X) (eN "self") (esC (eN "alo") (esC (eN "ahi") (esC (eN "blo") (esC (eN "bhi") esN))))) (iY (cM 3 (asC (aN "i") (asC (aN "j") (asC (aN "k") asN)))) (aN "x"))) (gI X)
def gB:SF:=aB (dF (ePop (eN "queue")) (cM 4 (asC (aN "alo") (asC (aN "ahi") (asC (aN "blo") (asC (aN "bhi") asN)))))) (gF X)
def bX:SF:=(fK (tE (eN "queue")) (gB X))
def dX(X:XX C):SF:=(bE (aF9 (eN "matching_blocks")))
def dW(X:XX C):SF:=(dF (eK (.int 0)) (iY (aN "i1") (iY (aN "j1") (aN "k1"))))
def dV(X:XX C):SF:=(aV "non_adjacent" (cX esN))
def nP:SF:=aB (bE (c9 (eN "non_adjacent") (bH (esC (eN "i1") (esC (eN "j1") (esC (eN "k1") esN)))))) (sK .next)
def cI(X:XX C):SF:=(sIf (tE (eN "k1")) nP (sK .next))
def nS:SF:=aB (cN ["i1","j1","k1"] (bH (esC (eN "i2") (esC (eN "j2") (esC (eN "k2") esN))))) (sK .next)
def cJ:SF:=(gP (bB C) (iL (eN "matching_blocks")) (cM 3 (asC (aN "i2") (asC (aN "j2") (asC (aN "k2") asN)))) (aB (sIf (bC (tE (aA (aX id) (aA aH (eN "i1") (eN "k1")) (eN "i2"))) (bC (tE (aA (aX id) (aA aH (eN "j1") (eN "k1")) (eN "j2"))) (tK be))) (aB (sH "k1" nR (eN "k2")) (sK .next)) (aB (cI X) nS)) (sK .next)))
def bR(X:XX C):SF:=(bE (c9 (eN "non_adjacent") (bH (esC (eN "la") (esC (eN "lb") (esC (eK (.int 0)) esN))))))
def cH:SF:=(dF (eLM (s6 C 2 X.makeM) (λi=>(i,0)) (eN "non_adjacent")) (eZ "matching_blocks" (eN "self")))
def gR12:SF:=aB (cH X) (aB (cG X) (sK .next))
def gR6:SF:=aB (dX X) (aB (dW X) (aB (dV X) (aB (cJ X) (aB (cI X) (aB (bR X) (gR12 X))))))
def gR2:SF:=aB (dY X) (aB (bZ X) (aB (bY X) (aB (bX X) (gR6 X))))
def eY:SF:=(aB (iA X) (aB (hZ X) (gR2 X)))
def bO:CF:=jG ["self"] [] (eY X)
theorem eR:CV C 5 (.ref 203) (bO X):=CV.def_ X.d_get_matching_blocks ⋯ X.b_get_matching_blocks (λq q=>.nil) (c7 ⋯) (λL=>(cU (X.D0 X.M_find_longest_match) rfl ⋯))
def XX.M_get_matching_blocks:aq (Mth C):=me0 "get_matching_blocks" (eR X) rfl::X.M_find_longest_match
def n9(X:XX C):SF:=(sK .next)
def n8(X:XX C):SF:=(sIf (tE (aA (oIs not) (eP "opcodes" (eN "self")) (eK .none))) (aB (dQ (eP "opcodes" (eN "self"))) (sK .next)) (sK .next))
def jA(X:XX C):SF:=(dF (eK (.int 0)) (iY (aN "i") (aN "j")))
def i9(X:XX C):SF:=(dF (cX esN) (iY (eZ "opcodes" (eN "self")) (aN "answer")))
def oP2:SF:=aB (bE (c9 (eN "answer") (bH (esC (eK (.str "equal")) (esC (eN "ai") (esC (eN "i") (esC (eN "bj") (esC (eN "j") esN)))))))) (sK .next)
def oP1:SF:=aB (bE (c9 (eN "answer") (bH (esC (eN "tag") (esC (eN "i") (esC (eN "ai") (esC (eN "j") (esC (eN "bj") esN)))))))) (sK .next)
def oR3:SF:=aB (sIf (tE (eN "size")) oP2 (sK .next)) (sK .next)
def oR2:SF:=aB (cN ["i","j"] (bH (esC (aA aH (eN "ai") (eN "size")) (esC (aA aH (eN "bj") (eN "size")) esN)))) oR3
def oR:SF:=aB (sIf (tE (eN "tag")) oP1 (sK .next)) oR2
def i8:SF:=(gP (bB C) (iL (cW (bO X) (eN "self") esN)) (cM 3 (asC (aN "ai") (asC (aN "bj") (asC (aN "size") asN)))) (aB (aV "tag" (eK (.str ""))) (aB (sIf (bC (tE (aA oLt (eN "i") (eN "ai"))) (bC (tE (aA oLt (eN "j") (eN "bj"))) (tK be))) (aB (aV "tag" (eK (.str "replace"))) (sK .next)) (aB (sIf (tE (aA oLt (eN "i") (eN "ai"))) (aB (aV "tag" (eK (.str "delete"))) (sK .next)) (aB (sIf (tE (aA oLt (eN "j") (eN "bj"))) (aB (aV "tag" (eK (.str "insert"))) (sK .next)) (sK .next)) (sK .next))) (sK .next))) oR)))
def i7(X:XX C):SF:=(dQ (eN "answer"))
def kC:SF:=(aB (n9 X) (aB (n8 X) (aB (jA X) (aB (i9 X) (aB (i8 X) (aB (i7 X) (sK .next)))))))
def aZ:CF:=jG ["self"] [] (kC X)
theorem jU:CV C 6 (.ref 210) (aZ X):=CV.def_ X.d_get_opcodes ⋯ X.b_get_opcodes (λq q=>.nil) (c7 ⋯) (λL=>(cU (X.D0 X.M_get_matching_blocks) rfl ⋯))
def XX.M_get_opcodes:aq (Mth C):=me0 "get_opcodes" (jU X) rfl::X.M_get_matching_blocks
def aF1(X:XX C):SF:=(sK .next)
def aF0(X:XX C):SF:=(dF (eN "isjunk") (eZ "isjunk" (eN "self")))
def aFz(X:XX C):SF:=(dF (eK .none) (iY (eZ "a" (eN "self")) (eZ "b" (eN "self"))))
def aFy(X:XX C):SF:=(dF (eN "autojunk") (eZ "autojunk" (eN "self")))
def aFx:SF:=(bE (cW (iU X) (eN "self") (esC (eN "a") (esC (eN "b") esN))))
def xP:SF:=(aB (aF1 X) (aB (aF0 X) (aB (aFz X) (aB (aFy X) (aB (aFx X) (sK .next))))))
theorem yW(P:ft)(L:d3):SVs C 4 (kq (bD (o160 P)) L 160) (cK (stB 5 1)) (xP X):=cU (X.D0 X.M_get_opcodes) rfl ⋯
def yF:CF:=jG ["self","isjunk","a","b","autojunk"] [.bool be] (xP X)
def aAw:CF:=jG ["self","isjunk","a","b","autojunk"] [] (xP X)
theorem XX.cc_init:CC C 5 (.ref 160) (yF X):=λhr S a e=>jT X.d_init ⋯ X.b_init1 (λq q=>.cons (.bool be) .nil) (c7 ⋯) (λL=>yW X X.w.params L) hr S a e
theorem XX.cc_init4:CC C 5 (.ref 160) (aAw X):=λhr S a e=>jT X.d_init ⋯ X.b_init (λq q=>.nil) (c7 ⋯) (λL=>yW X X.w.params L) hr S a e
def XX.c_SM:CF:=cNew (yF X)
def XX.c_SM4:CF:=cNew (aAw X)
theorem XX.cv_SM:CV C 6 (.ref d7) X.c_SM:=CV.sm X.kc X.cc_init
theorem XX.cv_SM4:CV C 6 (.ref d7) X.c_SM4:=CV.sm X.kc X.cc_init4
def zV(X:XX C):SF:=(sK .next)
def zU:SF:=(aV "codes" (cW (aZ X) (eN "self") esN))
def oQ(X:XX C):SF:=(sIf (tNot (tE (eN "codes"))) (aB (aV "codes" (cX (esC (bH (esC (eK (.str "equal")) (esC (eK (.int 0)) (esC (eK (.int 1)) (esC (eK (.int 0)) (esC (eK (.int 1)) esN)))))) esN))) (sK .next)) (sK .next))
def oP(X:XX C):SF:=(sIf (tE (aA (aX id) (aA aG (aA aG (eN "codes") (eK (.int 0))) (eK (.int 0))) (eK (.str "equal")))) (aB (dF (aA aG (eN "codes") (eK (.int 0))) (cM 5 (asC (aN "tag") (asC (aN "i1") (asC (aN "i2") (asC (aN "j1") (asC (aN "j2") asN))))))) (aB (dF (bH (esC (eN "tag") (esC (aJ q6 (esC (eN "i1") (esC (aA bL (eN "i2") (eN "n")) esN))) (esC (eN "i2") (esC (aJ q6 (esC (eN "j1") (esC (aA bL (eN "j2") (eN "n")) esN))) (esC (eN "j2") esN)))))) (uG (eN "codes") (eK (.int 0)))) (sK .next))) (sK .next))
def oO(X:XX C):SF:=(sIf (tE (aA (aX id) (aA aG (aA aG (eN "codes") (cS (eK (.int 1)))) (eK (.int 0))) (eK (.str "equal")))) (aB (dF (aA aG (eN "codes") (cS (eK (.int 1)))) (cM 5 (asC (aN "tag") (asC (aN "i1") (asC (aN "i2") (asC (aN "j1") (asC (aN "j2") asN))))))) (aB (dF (bH (esC (eN "tag") (esC (eN "i1") (esC (aJ yH (esC (eN "i2") (esC (aA aH (eN "i1") (eN "n")) esN))) (esC (eN "j1") (esC (aJ yH (esC (eN "j2") (esC (aA aH (eN "j1") (eN "n")) esN))) esN)))))) (uG (eN "codes") (cS (eK (.int 1))))) (sK .next))) (sK .next))
def tH(X:XX C):SF:=(aV "nn" (aA aH (eN "n") (eN "n")))
def tG(X:XX C):SF:=(aV "group" (cX esN))
def gR3:SF:=aB (oP X) (aB (oO X) (aB (tH X) (aB (tG X) (sK .next))))
def aFh:SF:=(aB (zV X) (aB (zU X) (aB (oQ X) (gR3 X))))
def g_it(X:XX C):EF:=(eN "codes")
def aFg(X:XX C):AF:=(cM 5 (asC (aN "tag") (asC (aN "i1") (asC (aN "i2") (asC (aN "j1") (asC (aN "j2") asN))))))
def g_fc(X:XX C):TF:=(bC (tE (aA (aX id) (eN "tag") (eK (.str "equal")))) (bC (tE (aA oGt (aA bL (eN "i2") (eN "i1")) (eN "nn"))) (tK be)))
def g_f1(X:XX C):SF:=(bE (c9 (eN "group") (bH (esC (eN "tag") (esC (eN "i1") (esC (aJ yH (esC (eN "i2") (esC (aA aH (eN "i1") (eN "n")) esN))) (esC (eN "j1") (esC (aJ yH (esC (eN "j2") (esC (aA aH (eN "j1") (eN "n")) esN))) esN))))))))
def g_fy(X:XX C):EF:=(eN "group")
def g_f2(X:XX C):SF:=(aB (aV "group" (cX esN)) (aB (cN ["i1","j1"] (bH (esC (aJ q6 (esC (eN "i1") (esC (aA bL (eN "i2") (eN "n")) esN))) (esC (aJ q6 (esC (eN "j1") (esC (aA bL (eN "j2") (eN "n")) esN))) esN)))) (sK .next)))
def g_f3(X:XX C):SF:=(bE (c9 (eN "group") (bH (esC (eN "tag") (esC (eN "i1") (esC (eN "i2") (esC (eN "j1") (esC (eN "j2") esN))))))))
def zX(X:XX C):TF:=(bC (tE (eN "group")) (bC (tNot (bC (tE (aA (aX id) (aJ b5 (esC (eN "group") esN)) (eK (.int 1)))) (bC (tE (aA (aX id) (aA aG (aA aG (eN "group") (eK (.int 0))) (eK (.int 0))) (eK (.str "equal")))) (tK be)))) (tK be)))
def g_fy2(X:XX C):EF:=(eN "group")
def gfn:GFn:= {pre:=aFh X,it:=g_it X,tgt:=aFg X,fc:=g_fc X,f1:=g_f1 X,fy:=g_fy X,f2:=g_f2 X,f3:=g_f3 X,fc2:=zX X,fy2:=g_fy2 X}
theorem XX.gv(L:d3):GV C 6 (gsh X.w.params) (gfn X) ((gsh X.w.params).envL L) where
 pre:=(cU (X.D0 X.M_get_opcodes) rfl ⋯)
 it:=(aGi (X.D0 X.M_get_opcodes) rfl ⋯)
 tgt:=((by exact λ{C r} D {a e f} k h=>(vC h).ok ⟨rfl,k⟩:∀{C:Cx}{r:Nat}(D:DX C){a:Env}{e:Expr}{f:AF}(k:a.scope.kind= .function)(h:gtO (dA (r:=r) D (dE D 12) a.kindOf 4 e)=am f),AV C r a e f) (X.D0 X.M_get_opcodes) rfl ⋯)
 fc:=(aGf (X.D0 X.M_get_opcodes) rfl ⋯)
 f1:=(dS_ok (X.D0 X.M_get_opcodes) rfl ⋯)
 fy:=(aGi (X.D0 X.M_get_opcodes) rfl ⋯)
 f2:=(cU (X.D0 X.M_get_opcodes) rfl ⋯)
 f3:=(dS_ok (X.D0 X.M_get_opcodes) rfl ⋯)
 fc2:=(aGf (X.D0 X.M_get_opcodes) rfl ⋯)
 fy2:=(aGi (X.D0 X.M_get_opcodes) rfl ⋯)
 hs:=λq=>rfl
 co:=rfl
 ia:=rfl
theorem XX.dG:Def C (gsh X.w.params).fa (gsh X.w.params).fd (gsh X.w.params).body:=((by intro fd;kernel_rfl:∀(fd:uw),(gshOf fd 218 (cK (stB 5 9)) 7).body=cK (stB 5 9)) (bD (vG X.w.params))).symm▸X.d_get_grouped_opcodes
def aS(X:XX C):CF:=cGen ["self","n"] []
def iX(X:XX C):CF:=cGen ["self","n"] [.int 3]
theorem iP:CV C 7 (.ref 218) (aS X):=CV.gen X.gc X.dG ⋯ X.b_get_grouped_opcodes (λq q=>.nil) (aD2 ⋯)
theorem iC:CV C 7 (.ref 218) (iX X):=CV.gen X.gc X.dG ⋯ X.b_get_grouped_opcodes1 (λq q=>.cons (.int 3 534) .nil) (aD2 ⋯)
def XX.ktg:Kti C:=⟨jQ X.gc 6 X.gv,iG,IV.gen X.gc X.gv,gR.gen X.gc X.gv,λq=>trivial⟩
def XX.ktl(e:Expr):Kti C:=(onN e.ctorIdx 16 (λq=>Expr.Call.elim e q λfn a a a=>onN fn.ctorIdx 20 (λq=>Expr.Attribute.elim fn q λa x a=>onS x "get_grouped_opcodes" (λa=>am X.ktg) ba) ba) ba).getD (kt0 e)
def XX.T1:aq (Fn C):=fn0 "list" (CV.listG X.gc X.gv (r:=8) (Nat.le_refl 8)) X.g_list::fn0 "SequenceMatcher" X.cv_SM X.g_SequenceMatcher 3::fn0 "SequenceMatcher" X.cv_SM4 X.g_SequenceMatcher 4::X.Tb
def XX.M1:aq (Mth C):=[me0 "get_grouped_opcodes" (iP X) rfl 1,me0 "get_grouped_opcodes" (iC X) rfl 0,me0 "get_opcodes" (jU X) rfl,me0 "get_matching_blocks" (eR X) rfl]
def uZ(g:OpF)(f1 f2 f:EF):SF:=λlo H Q=>f1 lo H λa H1=>f2 lo H1 λb H2=>Lp (aG a b H2) λw H3=>f lo H3 λc H4=>Lp (g w c H4) λv H5=>Lf (sL a b v H5) λH6=>Q .next lo H6
theorem SV.augI{pos'}{pos}(h1:EV C r env o f1)(h2:EV C r env i f2)(h:EV C r env e f)(w:OpR C r (inplaceOp op) g)(A:∀ k l a,augStore i k l a=(do sx [a,k,l] (vy k l a);release [a,k,l] [];pure .next)):SV C r env (.AugAssign (.Subscript o i pos') op e pos) (uZ g f1 f2 f):=λE E E E E E j S F q=>wpAny_AugAssign_Subscript_any (h1.run j S F q λS1 m r1 q=>h2.run j S1 (F.nx m) q λS2 c s q=>q.elim λp e q=>by
  obtain⟨x,z,y,B,_⟩:=qC S2 (r1.nx c) s e
  have n:=(F.nx m).nx c
  refine B _ (h.run j S2 n (x▸q) λS4 b v q=>bQ.run (w j S4 (y.nx b) v q) λS5 d t q=>q.elim λH6 u q=>(pL S5 (((r1.nx c).nx b).nx d) ((s.nx b).nx d) t u λs' D p=>⟨D,(((m.trans c).trans b).trans d).wr.trans (p _),((n.nx b).nx d).nx (p _),.next,q⟩))) A
theorem aIi{a:aq Expr}{b:aq uV}(al:EsP C r κ c f)(e:c.length.blt 30=be)(h:(d.endLine==pos.line)=be):fM env (.Call (.Name "SequenceMatcher" g) a b p2) x d pos c:=⟨by cases a<;>cases b<;>rfl,by rw[al.al];exact bm (iH e),h⟩
def xMc(smc:SMC C)(M:aq (Mth C))(d:dEt C r)(κ:Kn)(e:Expr):bc (RE C r κ e):=onN e.ctorIdx 16 (λq=>Expr.Call.elim (motive_1:=λe=>bc (RE C r κ e)) e q λfn as ks p=>ks.casesOn (onN fn.ctorIdx 20 (λq=>Expr.Attribute.elim (motive_1:=λfn=>bc (RE C r κ (.Call fn as [] p))) fn q λo m ap=>
 onN o.ctorIdx 16 (λq=>Expr.Call.elim (motive_1:=λo=>bc (RE C r κ (.Call (.Attribute o m ap) as [] p))) o q λfn2 as2 ks2 p2=>onN fn2.ctorIdx 23 (λq=>Expr.Name.elim (motive_1:=λfn2=>bc (RE C r κ (.Call (.Attribute (.Call fn2 as2 ks2 p2) m ap) as [] p))) fn2 q λy np=>onS y "SequenceMatcher" (λhy=>
  bd (d κ (.Call (.Name y np) as2 ks2 p2)) λf h=>onB (ap.endLine==p.line) λhk=>bd (dEs d κ as) λg hs=>bd (fndM m as.length M) λt te=>onB (t.r0.ble r) λhr=>onB (as.length.blt 30) λhl=>
   am ⟨cW t.g f g,λa k=>by subst hy;exact EV.meth smc (te▸oz.mp t.hm) (t.cv.lift hr) (h.ok k) (hs.ok k) (hs.fl _) (aIi hs hl hk),pfC⟩) ba) ba) ba) ba) λa a=>ba) ba
theorem aug_ok(h:(i.ctorIdx.beq 3 || i.ctorIdx.beq 21)=be):∀ b c a,augStore i b c a=(do sx [a,b,c] (vy b c a);release [a,b,c] [];pure .next):=by
 cases i<;>first |exact λq q q=>rfl |cases h
def xAu(d:dEt C r)(κ:Kn)(st:jg):bc (Pk SF λf=>∀ ⦃env:Env⦄,KE κ env->SV C r env st f):=onN st.ctorIdx 7 (λq=>Stmt.AugAssign.elim st q λt op e pos=>onN op.ctorIdx 0 (λq=>Operator.Add.elim (motive:=λop=>bc (Pk SF λf=>∀ ⦃env:Env⦄,KE κ env->SV C r env (.AugAssign t op e pos) f)) op q <|
 onN t.ctorIdx 21 (λq=>Expr.Subscript.elim (motive_1:=λt=>bc (Pk SF λf=>∀ ⦃env:Env⦄,KE κ env->SV C r env (.AugAssign t .Add e pos) f)) t q λo i p=>bd (d κ o) λf1 h1=>bd (d κ i) λf2 h2=>bd (d κ e) λf h=>onB (i.ctorIdx.beq 3 || i.ctorIdx.beq 21) λhi=>
  am ⟨uZ nR f1 f2 f,λa k=>SV.augI (h1.ok k) (h2.ok k) (h.ok k) OpR.iadd (aug_ok hi)⟩) ba) ba) ba
def V.ii:V->bc Int | .int i=>am i |_=>Option.none
def mI(xs:aq V):aq V->bc ec:=xs.rec (λq=>ba) λx q ih ys=>ys.casesOn ba λy ys=>x.ii.bind λa=>y.ii.bind λb=>bif decide (a=b) then ih ys else am (decide (a<b))
def V.lt(u v:V):bc ec:=u.tp.bind λxs=>v.tp.bind (mI xs)
theorem xM{x:V}{a:Int}(h:x.ii=am a):x= .int a:=by
 cases x with
 |int i=>exact b3 V.int (Option.some.inj h)
 |_=>cases h
theorem wQ{x:V}(h:x.tp=am xs):x= .tup xs:=by
 cases x with
 |tup i=>exact b3 V.tup (Option.some.inj h)
 |_=>cases h
inductive LexC(x y:V)(xs ys:aq V)(t:ec):Prop
 |mk {a b:Int} (z1:x= .int a) (z2:y= .int b) (k:(a=b/\mI xs ys=am t)\/(a≠b/\t=decide (a<b)))
theorem sX(h:mI (x::xs) (y::c)=am t):LexC x y xs c t:=by
 refine xEA (bn.mp h) λa f h=>xEA (bn.mp h) λb d h=>⟨xM f,xM d,?_⟩
 by_cases e:a=b
 ·rw[bm e]at h;exact .inl ⟨e,h⟩
 ·rw[bp e]at h;exact .inr ⟨e,(Option.some.inj h).symm⟩
theorem mH{a b:Int}:mI (.int a::xs) (.int b::c)=bif decide (a=b) then mI xs c else am (decide (a<b)):=rfl
theorem aBv:∀ {xs c:aq V},mI xs c=am be->mI c xs=am false:=λ{xs}=>by
 induction xs with
 |nil=>intro c h;cases h
 |cons x xs g=>
  intro c h
  cases c with
  |nil=>cases h
  |cons y c=>
   rcases sX h with @⟨a,b,f,d,k |k⟩
   ·exact rwL f (rwL d (rwL mH (rwL (bm k.1.symm) (g k.2))))
   ·exact rwL f (rwL d (rwL mH (rwL (bp (λe=>k.1 e.symm)) (b3 am (bp (kz.mpr (jd (cb k.2.symm))))))))
theorem aIq:∀ {xs f d:aq V},mI xs f=am be->mI f d=am be->mI xs d=am be:=λ{xs}=>by
 induction xs with
 |nil=>intro f d h;cases h
 |cons x xs l=>
  intro f d h g
  cases f with
  |nil=>cases h
  |cons y f=>
   cases d with
   |nil=>cases g
   |cons z d=>
    rcases sX h with @⟨a,b,j,n,k⟩
    rcases sX g with @⟨b',c,e,o,m⟩
    cases n.symm.trans e
    rw[j,o,mH]
    rcases k with k |k
    ·rcases m with m |m
     ·exact rwL (bm (k.1.trans m.1)) (l k.2 m.2)
     ·exact rwL k.1 (rwL (bp m.1) (b3 am m.2.symm))
    ·rcases m with m |m
     ·exact rwR m.1 (rwL (bp k.1) (b3 am k.2.symm))
     ·have i:=cb m.2.symm
      exact rwL (bp (Int.ne_of_lt (Int.lt_trans (cb k.2.symm) i))) (b3 am (bm (Int.lt_trans (cb k.2.symm) i)))
inductive LtI(u v:V)(t:ec):Prop
 |mk {xs ys:aq V} (h1:u= .tup xs) (h2:v= .tup ys) (h:mI xs ys=am t)
theorem sT(h:u.lt v=am t):LtI u v t:=by
 exact xEA (bn.mp h) λxs b h=>xEA (bn.mp h) λys a h=>⟨wQ b,wQ a,h⟩
theorem sU{v:V}(h:u.lt v=am be):v.lt u=am false:=by
 cases sT h with
 |mk a b h=>
  subst a b
  exact aBv h
theorem lt_tr{u:V}(h:u.lt v=am be)(g:v.lt w=am be):u.lt w=am be:=by
 cases sT h with
 |mk d b h=>
  cases sT g with
  |mk c a g=>
   subst d b a
   exact rwR c (aIq h g)
theorem int_lt{b:ec}(h:Q (decide (x<y)) s):bw (ir prog w) A (oneLt' b (.int x t) (.int y u)) Q E s:=by
 cases b with
 |true=>exact oneLt_int h
 |false=>exact kat_one _ _ (lt_int h)
theorem lex_ok{b:ec}(q:Q t s):∀ {xs d:aq V}{us vs:aq bt}{i:Nat},VRs ρ s.heap us xs->VRs ρ s.heap vs d->mI xs d=am t->KatLex prog w A b f Q (us.zip vs) i s:=λ{xs}=>by
 induction xs with
 |nil=>intro d us vs i _ _ e;cases e
 |cons x xs n=>
  intro d us vs i l h e
  cases d with
  |nil=>cases e
  |cons y d=>
   rcases sX e with @⟨a,c,m,o,k⟩
   subst m o
   cases l with
   |cons l j=>cases h with
    |cons h g=>
     cases l;cases h
     refine kat_cons (wpAny_eqBool_int ?_)
     rcases k with k |k
     ·exact rwL (show (a==c)=be from kr.mpr k.1) (kat_yes (n j g k.2))
     ·exact rwL (show (a==c)=false from pd.mpr k.1) (kat_no (int_lt (k.2▸q)))
theorem aCh(rs:VRs ρ h us vs)(d:q<vs.length)(e:vs.getD q V.none= .tup xs):∃ a b n,us.getD q Value.none= .ref a/\h.get? a=am {cls:=.type "tuple",data:=.seq b n}/\VRs ρ h b.toList xs:=by
 refine xEA (rs.get (getElem?_eq_getElem d)) λu f c=>?_
 rw[ce,getElem?_eq_getElem d]at e
 refine rwL ce (rwL f ?_)
 replace c:VR ρ h u (.tup xs):=e▸c
 obtain⟨a,b,n,z,g,_,rs⟩:=c.inv
 exact⟨a,b,n,z,g,rs⟩
def hdI(v:V):bc Int:=(v.tp.bind List.head?).bind V.ii
theorem aIn:∀ {a b:aq V},a.Perm b->a.Pairwise (λx y=>x.lt y=am be)->b.Pairwise (λx y=>x.lt y=am be)->a=b:=λ{a}=>by
 induction a with
 |nil=>exact λp q q=>(List.Perm.nil_eq p)
 |cons x a g=>
  intro b p c d
  cases b with
  |nil=>exact bv p.length_eq nofun
  |cons y b=>
   have e:x=y:=by
    rcases e6.mp (p.mem_iff.mp c3) with e |i
    ·exact e
    ·rcases e6.mp (p.mem_iff.mpr c3) with e |h
     ·exact e.symm
     ·have j:=(et.mp c).1 y h
      have f:=(et.mp d).1 x i
      cases ((sU j)▸f)
   subst e
   exact b3 (x::·) (g p.cons_inv (et.mp c).2 (et.mp d).2)
def ltN(vs:aq V)(i j:Nat):ec:=(vs.getD i V.none).lt (vs.getD j V.none)==am be
theorem zN{ws:aq V}(p:ws.Perm vs)(h:ws.Pairwise λx y=>x.lt y=am be):Ord vs.length (ltN vs) where
 tr:=λx y z g k=>kr.mpr (lt_tr (kr.mp g) (kr.mp k))
 tot:=λx y m l f=>by
  have c:∀ i j,i<j->j<vs.length->ltN vs i j=be\/ltN vs j i=be:=λi j e d=>by
   delta ltN
   exact rwL ce (rwL ce (rwL (getElem?_eq_getElem d) (rwL (getElem?_eq_getElem (iq e d)) ((List.pairwise_iff_getElem.mp ((p.pairwise_iff λ{a b} q=>q.symm).mp (h.imp λq=>.inl q):vs.Pairwise λa b=>a.lt b=am be\/b.lt a=am be) i j (iq e d) d e).imp kr.mpr kr.mpr))))
  exact(Nat.lt_or_gt_of_ne f).elim (λq=>c x y q l) λq=>(c y x q m).symm
 asy:=λx y h=>by
  delta ltN
  rw[(sU (kr.mp h))];rfl
def uC:CF:=λvs H Q=>Lf ((one vs).bind (lst H)) λxs=>xs.length<64/\(∀ v∈xs,(hdI v).isSome=be)/\∃ ws:aq V,ws.Perm xs/\ws.Pairwise (λx y=>x.lt y=am be)/\Q (.ref H.length) (H++[.list ws])
theorem CV.sorted:CV C r (.builtin "sorted") uC:=⟨cQ,λ{A s ρ H us vs Q} hr S rs q=>q.elim λxs e ⟨F,hd,ws,G,pw,q⟩=>by
 refine xEA (bn.mp e) λx X U=>xEA (jM rs X) λu z ru=>rwL z ?_
 refine bM (b6 S ru U) λad c z il rl=>rwL z ?_
 refine Calls.call_function_entry kind_sorted plain_sorted entry_sorted (args_sorted1 _) (zzB (zzP ?_))
 have ll:c.toList.length<=ur:=by rw[ez,Array.length_toList,rl.sz];exact Nat.le_trans (Nat.le_of_lt F) (by decide)
 refine zzB (collect_list (rwR (by simp:c=c.toList.toArray) il) (zzB (vi ?_ ll)) ll)
 have B:((s.heap.push (qq "list" #[] 0)).update s.heap.objs.size (Obj.mapSeq (·++c.toList.toArray))).objs.size=s.heap.objs.size+1:=by
  rw[Heap.size_update,size_push']
 have K:(((s.heap.push (qq "list" #[] 0)).update s.heap.objs.size (Obj.mapSeq (·++c.toList.toArray))).push (qq "list" c.toList.toArray 0)).get? (s.heap.objs.size+1)=am (qq "list" c.toList.toArray 0):=by
  exact rwR B (Heap.get?_push_size _ rfl)
 have d:∀ b o,s.heap.get? b=am o->(((s.heap.push (qq "list" #[] 0)).update s.heap.objs.size (Obj.mapSeq (·++c.toList.toArray))).push (qq "list" c.toList.toArray 0)).get? b=am o:=λb o q=>by
  have D:=Heap.lt_size q
  exact rwL (Heap.get?_push_ne _ _ _ (by exact rwL B (md (Nat.lt_succ_of_lt D)))) (rwL (Heap.get?_update_ne _ _ _ _ (md D)) (rwL (Heap.get?_push_ne _ _ _ (md D)) q))
 refine rwL B ?_
 have L:s.heap.get? (s.heap.objs.size+1)=ba:=Heap.get?_none_of_le (vH _)
 have g:=S.grow (k:=s.toks) (l:=⟨s.heap.objs.size+1,s.heap.objs.size+1,ba⟩) (m:=.list xs) d L L rfl ⟨rfl,rfl,_,_,K,by exact rwL List.toList_toArray (rl.mono (gy _ _) ((dM d).gr (gy _ _) λl U=>(by cases dv.mp (nO▸U);exact⟨L,L⟩)))⟩
 refine zzB (bx (fu slot_list_sort ⟨_,K,rfl⟩ entry_list_sort (uT (κ:=tuples' (Value.type "int" != Value.type "tuple")) (W:=noW) (l:=⟨s.heap.objs.size+1,s.heap.objs.size+1,ba⟩) g.1 S.last (by rw[gM (Nat.le_refl _),pI];rfl) F (λ{Z us Q} J kp rs q=>?_) (λ{Z us Q i j} kp rs I E aj q=>?_) (zN G pw) (λl2=>?_) G.length_eq (λp P S=>(by
  intro vs ws p h q P S
  refine aIn (.trans ?_ p.symm) ?_ h
  ·refine (P.tl.map λi=>vs.getD i V.none).trans (.of_eq (uR (by rw[bg,qi]) λi h1 J=>?_))
   rw[List.getElem_map,List.getElem_range,ce,getElem?_eq_getElem J];rfl
  ·refine List.pairwise_iff_getElem.mpr λi j I E ij=>?_
   rw[bg]at I E
   have Y:=(Array.length_toList ..).trans P.sz
   have:=kr.mp (S i j ij (Y▸E))
   rw[List.getElem_map,List.getElem_map]
   refine xE (P.at (Y▸I)) λh1 O=>xE (P.at (Y▸E)) λh2 T=>?_
   rw[O,T]at this;exact this:∀{vs ws:aq V}(p:ws.Perm vs)(h:ws.Pairwise λx y=>x.lt y=am be){q:jf Nat}(P:Pm vs.length q)(S:Sd (ltN vs) q vs.length),(q.toList.map λi=>vs.getD i V.none)=ws) G pw P S) λs' S' N'=>⟨_,rfl,zzP ⟨_,rfl,?_⟩⟩) (args_list_sort _)))
 ·obtain⟨fs,t1,t2,t3⟩:=(by
   intro ρ h us vs rs
   refine rs.ind (P:=λus vs=>(∀ v∈vs,(hdI v).isSome=be)->∃ fs,KatTups h us fs/\fs.length=us.length/\∀ f∈fs,∃ i t,f= .int i t) (λ_=>⟨[],.nil,rfl,(λ_ h=>bv h List.not_mem_nil)⟩) λ{u us v vs} r _ ih hv=>c6 (ih λw hw=>hv w (eh _ hw)) λfs h1 J Z=>(qf.mp (hv v c3)).elim λi e=>xEA (bn.mp e) λx e X=>xEA (bn.mp e) λxs e hh=>?_
   replace r:VR ρ h u (.tup xs):=wQ e▸r
   obtain⟨a,c,n,z,g,_,rs⟩:=r.inv;subst z
   refine xEA (rs.get (rwR List.head?_eq_getElem? hh)) λf hf M=>?_
   replace M:VR ρ h f (.int i):=xM X▸M
   refine M.inv.elim λt e=>⟨f::fs,.cons g rfl rfl (by exact rwR Array.getElem?_toList hf) h1,b3 Nat.succ J,λy R=>?_⟩
   rcases e6.mp R with rfl |R
   ·exact⟨i,t,e⟩
   ·exact Z y R:∀{ρ:aq Lc}{h:kh}{us:aq bt}{vs:aq V}(rs:VRs ρ h us vs),(∀ v∈vs,(hdI v).isSome=be)->∃ fs,KatTups h us fs/\fs.length=us.length/\∀ f∈fs,∃ i t,f= .int i t) rs hd
  exact kat_kind t1 (by exact rwL t2 (Nat.lt_of_lt_of_le (by decide) J)) (λf hf=>by obtain⟨i,t,rfl⟩:=t3 f hf;exact .now) (by decide) q
 ·have N:∀ t,(xs.getD i V.none).lt (xs.getD j V.none)=am t->ltN xs i j=t:=λt e=>by delta ltN;rw[e];cases t<;>rfl
  obtain⟨t,ht⟩:=(((zN G pw).tot i j I E aj).elim (λz=>⟨be,kr.mp z⟩) λz=>⟨false,sU (kr.mp z)⟩:∃ t,(xs.getD i V.none).lt (xs.getD j V.none)=am t)
  rcases sT ht with @⟨as,bs,O,T,e3⟩
  obtain⟨a,xa,n,u1,g1,r1⟩:=aCh rs I O
  obtain⟨b,xb,m,u2,g2,r2⟩:=aCh rs E T
  exact rwL u1 (rwL u2 (kat_lt g1 rfl g2 rfl (lex_ok (rwR (N t ht) q) r1 r2 e3)))
 ·exact (by
   intro a b p h
   cases b with
   |nil=>exact List.Perm.eq_nil p
   |cons x t=>cases t with
    |nil=>exact List.Perm.eq_singleton p
    |cons y t=>exact bv h (Nat.not_lt.mpr (ou 2 t.length)):∀{a b:aq V}(p:a.Perm b)(h:b.length<2),a=b) G l2
 ·refine⟨S',(g.2 _).trans N',VR.ref S.last,?_⟩
  rw[List.set_append_right _ _ (Nat.le_refl _),pI];exact q⟩
def XX.D1(T:aq (Fn C)):DX C:=⟨X.smc,T++fn0 (r0:=0) "sorted" CV.sorted X.g_sorted::fn0 (r0:=0) "sum" CV.sum X.g_sum::X.T1,X.M1,X.ktl,_,X.km,⟨X.g_enumerate,X.g_zip⟩,X.sys,λd t κ e=>orE (xIfE d t κ e) (orE (xSl d κ e) (orE (xExt d κ e) (xMc X.smc X.M1 d κ e))),λd κ e=>tCha d κ e,λd κ st=>xAu d κ st⟩
def mO(X:XX C):SF:=(aV "versions" (cX (esC (bU (bB C) [".0","x"] (iL (eN "numbers")) (aN "x") (bC (tE (aA (aX not) (aA gQ (eN "x") (eK (.int 8))) (eK (.int 7)))) (tK be)) (bA (aA gQ (aA nQ (eN "x") (eK (.int 8))) (eK (.int 3))))) esN)))
def vPut:EF:=(eIf (tE (aA (oIn id) (aA gQ (eN "x") (eK (.int 8))) (bH (esC (eK (.int 0)) (esC (eK (.int 2)) esN))))) (cX (esC (aA gQ (aA aH (aA nQ (eN "x") (eK (.int 8))) (eK (.int 1))) (eK (.int 3))) esN)) (cX esN))
def vCut:EF:=(eIf (tE (aA (oIn id) (aA gQ (eN "x") (eK (.int 8))) (bH (esC (eK (.int 1)) (esC (eK (.int 2)) esN))))) (eK (.int 1)) (eK (.int 0)))
def vIn:SF:=(aB (aV "place" (aA gQ (aA nQ (eN "x") (eK (.int 8))) (aA aH (aJ b5 (esC (eN "work") esN)) (eK (.int 1))))) (aB (aV "put" vPut) (aB (aV "out" vCut) (aB (aV "work" (aA aH (aA aH (eX (eN "work") (eK .none) (eN "place") (eK .none)) (eN "put")) (eX (eN "work") (aA aH (eN "place") (eN "out")) (eK .none) (eK .none)))) (sK .next)))))
def vOut:SF:=(aB (aV "work" (aA aG (eN "versions") (cS (eK (.int 1))))) (aB (gP (bB C) (iL (eX (eN "numbers") (eN "step") (eK .none) (eK (.int 3)))) (aN "x") vIn) (aB (bE (c9 (eN "versions") (eN "work"))) (sK .next))))
def mM(X:XX C):SF:=(gP (kU C) (iR (aJ gN (esC (eK (.int 3)) esN))) (aN "step") (vOut (C:=C)))
def mL(X:XX C):SF:=(dQ (eN "versions"))
def gD:SF:=(aB (mO X) (aB (mM X) (aB (mL X) (sK .next))))
def gK:CF:=jG ["numbers"] [] (gD X)
theorem cA:CV C 11 (.ref 251) (gK X):=CV.def_ X.d__law_versions ⋯ X.b__law_versions (λq q=>.nil) (c7 ⋯) (λL=>(cU (X.D1 []) rfl ⋯))
def qL(X:XX C):SF:=(dQ (bU (bB C) [".0","tag","i1","i2","j1","j2"] (iL (eN "codes")) (uF 5 (asC (aN "tag") (asC (aN "i1") (asC (aN "i2") (asC (aN "j1") (asC (aN "j2") asN)))))) (tK be) (bA (bH (esC (eN "tag") (esC (eN "j1") (esC (eN "j2") (esC (eN "i1") (esC (eN "i2") esN)))))))))
def iK:SF:=(aB (qL X) (sK .next))
def cC:CF:=jG ["codes"] [] (iK X)
theorem dL:CV C 11 (.ref 256) (cC X):=CV.def_ X.d__law_turned ⋯ X.b__law_turned (λq q=>.nil) (c7 ⋯) (λL=>(cU (X.D1 [fn0 "_law_versions" (cA X) X.g__law_versions]) rfl ⋯))
def neE:EF:=aA (aX not) (aA aG (eN "code") (eK (.int 0))) (eK (.str "equal"))
def nZ(X:XX C):SF:=(dQ (bU (bB C) [".0","code"] (iL (eN "codes")) (aN "code") (bC (tE neE) (tK be)) (bA (eN "code"))))
def g8:SF:=(aB (nZ X) (sK .next))
def bS:CF:=jG ["codes"] [] (g8 X)
theorem eQ:CV C 11 (.ref 261) (bS X):=CV.def_ X.d__law_changes ⋯ X.b__law_changes (λq q=>.nil) (c7 ⋯) (λL=>(cU (X.D1 [fn0 "_law_turned" (dL X) X.g__law_turned,fn0 "_law_versions" (cA X) X.g__law_versions]) rfl ⋯))
def nY(X:XX C):SF:=(cN ["work","seen"] (bH (esC (cX esN) (esC (eK (.int 0)) esN))))
def pIn:SF:=(aB (bE (xV (eN "work") (eIf (tE (aA (aX id) (eN "tag") (eK (.str "equal")))) (eX (eN "old") (eN "i1") (eN "i2") (eK .none)) (eX (eN "new") (eN "j1") (eN "j2") (eK .none))))) (sK .next))
def nW(X:XX C):SF:=(gP (bB C) (iL (eN "groups")) (aN "group") (aB (bE (xV (eN "work") (eX (eN "old") (eN "seen") (aA aG (aA aG (eN "group") (eK (.int 0))) (eK (.int 1))) (eK .none)))) (aB (gP (bB C) (iL (eN "group")) (cM 5 (asC (aN "tag") (asC (aN "i1") (asC (aN "i2") (asC (aN "j1") (asC (aN "j2") asN)))))) pIn) (aB (aV "seen" (aA aG (aA aG (eN "group") (cS (eK (.int 1)))) (eK (.int 2)))) (sK .next)))))
def nV(X:XX C):SF:=(dQ (aA aH (eN "work") (eX (eN "old") (eN "seen") (eK .none) (eK .none))))
def g7:SF:=(aB (nY X) (aB (nW X) (aB (nV X) (sK .next))))
def fH:CF:=jG ["old","new","groups"] [] (g7 X)
theorem gG:CV C 11 (.ref 268) (fH X):=CV.def_ X.d__law_patched ⋯ X.b__law_patched (λq q=>.nil) (c7 ⋯) (λL=>(cU (X.D1 [fn0 "_law_changes" (eQ X) X.g__law_changes,fn0 "_law_turned" (dL X) X.g__law_turned,fn0 "_law_versions" (cA X) X.g__law_versions]) rfl ⋯))
def mvE:EF:=(aA aH (aA bL (aA bL (eN "j2") (eN "j1")) (eN "i2")) (eN "i1"))
def t6(X:XX C):SF:=(aV "met" (bU (bB C) [".0","i1","i2","j1","j2"] (iL (eN "one")) (uF 4 (asC (aN "i1") (asC (aN "i2") (asC (aN "j1") (asC (aN "j2") asN))))) (tK be) (bA (bH (esC (eN "j1") (esC (eN "j2") (esC (eK (.int 0)) (esC mvE esN))))))))
def t5(X:XX C):SF:=(aV "met" (aJ uC (esC (aA aH (eN "met") (bU (bB C) [".0","i1","i2","j1","j2"] (iL (eN "two")) (uF 4 (asC (aN "i1") (asC (aN "i2") (asC (aN "j1") (asC (aN "j2") asN))))) (tK be) (bA (bH (esC (eN "i1") (esC (eN "i2") (esC (eK (.int 1)) (esC mvE esN)))))))) esN)))
def t4(X:XX C):SF:=(cN ["heads","more","k"] (bH (esC (cX esN) (esC (cX (esC (eK (.int 0)) (esC (eK (.int 0)) esN))) (esC (eK (.int 0)) esN)))))
def fBd:SF:=(aB (aV "high" (aJ q6 (esC (eN "high") (esC (aA aG (aA aG (eN "met") (eN "k")) (eK (.int 1))) esN)))) (aB (uZ nR (eN "more") (aA aG (aA aG (eN "met") (eN "k")) (eK (.int 2))) (aA aG (aA aG (eN "met") (eN "k")) (eK (.int 3)))) (aB (sH "k" nR (eK (.int 1))) (sK .next))))
def fLt:TF:=(tE (aA oLt (eN "k") (aJ b5 (esC (eN "met") esN))))
def fT:TF:=(bC fLt (bC (tE (aA oLe (aA aG (aA aG (eN "met") (eN "k")) (eK (.int 0))) (eN "high"))) (tK be)))
def fOut:SF:=(aB (cN ["low","high"] (bH (esC (aA aG (aA aG (eN "met") (eN "k")) (eK (.int 0))) (esC (aA aG (aA aG (eN "met") (eN "k")) (eK (.int 1))) esN)))) (aB (cN ["left","right"] (bH (esC (aA bL (eN "low") (aA aG (eN "more") (eK (.int 0)))) (esC (aA aH (eN "low") (aA aG (eN "more") (eK (.int 1)))) esN)))) (aB (fK fT fBd) (aB (bE (c9 (eN "heads") (bH (esC (eN "left") (esC (aA bL (eN "high") (aA aG (eN "more") (eK (.int 0)))) (esC (eN "right") (esC (aA aH (eN "high") (aA aG (eN "more") (eK (.int 1)))) esN))))))) (sK .next)))))
def tZ(X:XX C):SF:=(fK fLt fOut)
def tY(X:XX C):SF:=(dQ (eN "heads"))
def kW:SF:=(aB (t6 X) (aB (t5 X) (aB (t4 X) (aB (tZ X) (aB (tY X) (sK .next))))))
def dB:CF:=jG ["one","two"] [] (kW X)
theorem nF:CV C 11 (.ref 273) (dB X):=CV.def_ X.d__law_fold ⋯ X.b__law_fold (λq q=>.nil) (c7 ⋯) (λL=>(cU (X.D1 [fn0 "_law_patched" (gG X) X.g__law_patched,fn0 "_law_changes" (eQ X) X.g__law_changes,fn0 "_law_turned" (dL X) X.g__law_turned,fn0 "_law_versions" (cA X) X.g__law_versions]) rfl ⋯))
def cT2:TF:=(bC (tOr (tE (aA (aX id) (eN "k") (eK (.int 0)))) (tOr (tE (aA oGe (aA bL (eN "line") (eN "i1")) (eN "n"))) (tK false))) (bC (tOr (tE (aA (aX id) (aA aH (eN "k") (eK (.int 1))) (aJ b5 (esC (eN "codes") esN)))) (tOr (tE (aA oGt (aA bL (eN "i2") (eN "line")) (eN "n"))) (tK false))) (tK be)))
def cT1:TF:=(bC (tE (aA (aX id) (eN "tag") (eK (.str "equal")))) (bC (tCh oLe oLt (eN "i1") (eN "line") (eN "i2")) (tK be)))
def cBd:SF:=(aB (sIf cT1 (aB (sIf cT2 (aB (dQ (aA aH (aA bL (eN "line") (eN "i1")) (eN "j1"))) (sK .next)) (sK .next)) (sK .next)) (sK .next)) (sK .next))
def n7(X:XX C):SF:=(gP (lN C) (iL (eN "codes")) (cM 2 (asC (aN "k") (asC (cM 5 (asC (aN "tag") (asC (aN "i1") (asC (aN "i2") (asC (aN "j1") (asC (aN "j2") asN)))))) asN))) cBd)
def n5(X:XX C):SF:=(dQ (cS (eK (.int 1))))
def g9:SF:=(aB (n7 X) (aB (n5 X) (sK .next)))
def fI:CF:=jG ["codes","n","line"] [] (g9 X)
def numE:EF:=aA aH (aA nQ (aA vE (eN "k") (aA aH (eN "k") (eK (.int 1)))) (eK (.int 2))) (aJ yG (esC (eX (eN "script") (eN "k") (eK .none) (eK (.int 24))) esN))
def aAi(X:XX C):SF:=(aV "numbers" (bU (kU C) [".0","k"] (iR (aJ gN (esC (eK (.int 24)) esN))) (aN "k") (tK be) (bA numE)))
def aAh(X:XX C):SF:=(aV "n" (aA gQ (aA aH (eK (.int 1)) (aJ yG (esC (eN "script") esN))) (eK (.int 3))))
def aAg:SF:=(aV "versions" (aJ (gK X) (esC (eN "numbers") esN)))
def aAf(X:XX C):SF:=(cN ["heads","paths"] (bH (esC (cX esN) (esC (bU (kU C) [".0","line"] (iR (aJ gN (esC (aJ b5 (esC (aA aG (eN "versions") (eK (.int 0))) esN)) esN))) (aN "line") (tK be) (bA (cX (esC (eN "line") esN)))) esN))))
def ck3:SF:=(sIf (tE (aA (aX not) (aJ b5 (esC (bU (bB C) [".0","group","code"] (iL (eN "groups")) (aN "group") (tK be) (lZ (bB C) (iL (eN "group")) (aN "code") (tK be) (bA (eN "code")))) esN)) (aA bL (aA aH (aA vE (eK (.int 2)) (aJ b5 (esC (aJ (bS X) (esC (eN "codes") esN)) esN))) (aJ b5 (esC (eN "groups") esN))) (aJ b5 (esC (eN "bare") esN))))) (aB (dQ (eK (.bool false))) (sK .next)) (sK .next))
def hdsE:EF:=(bU (bB C) [".0","group"] (iL (eN "groups")) (aN "group") (tK be) (bA (bH (esC (aA aG (aA aG (eN "group") (eK (.int 0))) (eK (.int 1))) (esC (aA aG (aA aG (eN "group") (cS (eK (.int 1)))) (eK (.int 2))) (esC (aA aG (aA aG (eN "group") (eK (.int 0))) (eK (.int 3))) (esC (aA aG (aA aG (eN "group") (cS (eK (.int 1)))) (eK (.int 4))) esN)))))))
def ck2:SF:=(aV "bare" (bU (bB C) [".0","code"] (iL (aA aH (eX (eN "codes") (eK .none) (eK (.int 1)) (eK .none)) (eX (eN "codes") (cS (eK (.int 1))) (eK .none) (eK .none)))) (aN "code") (bC (tE neE) (tK be)) (bA (eN "code"))))
def ck1:SF:=(sIf (tE (aA (aX not) (bU (bB C) [".0","group","code"] (iL (eN "groups")) (aN "group") (tK be) (lZ (bB C) (iL (aJ (bS X) (esC (eN "group") esN))) (aN "code") (tK be) (bA (eN "code")))) (aJ (bS X) (esC (eN "codes") esN)))) (aB (dQ (eK (.bool false))) (sK .next)) (sK .next))
def pa1:SF:=(aV "paths" (bU (bB C) [".0","path"] (iL (eN "paths")) (aN "path") (tK be) (bA (aA aH (eN "path") (cX (esC (aJ (fI X) (esC (eN "codes") (esC (eN "n") (esC (aA aG (eN "path") (cS (eK (.int 1)))) esN)))) esN))))))
def ck5:SF:=(sIf (tE (aA (aX not) (aJ (dB X) (esC (aA aG (eN "heads") (cS (eK (.int 1)))) (esC (cX esN) esN))) (aA aG (eN "heads") (cS (eK (.int 1)))))) (aB (dQ (eK (.bool false))) (sK .next)) (sK .next))
def pa2:SF:=(aV "paths" (bU (bB C) [".0","path"] (iL (eN "paths")) (aN "path") (bC (tE (aA oGe (aA aG (eN "path") (cS (eK (.int 1)))) (eK (.int 0)))) (tK be)) (bA (eN "path"))))
def ck4:SF:=(sIf (tE (aA (aX not) (aJ (fH X) (esC (eN "old") (esC (eN "new") (esC (eN "groups") esN)))) (eN "new"))) (aB (dQ (eK (.bool false))) (sK .next)) (sK .next))
def aAe:SF:=(gP (kU C) (iR (aJ gN (esC (eK (.int 3)) esN))) (aN "step") (aB (cN ["old","new"] (bH (esC (aA aG (eN "versions") (eN "step")) (esC (aA aG (eN "versions") (aA aH (eN "step") (eK (.int 1)))) esN)))) (aB (sIf (tE (aA (aX id) (aA gQ (aA aG (eN "numbers") (eN "step")) (eK (.int 2))) (eK (.int 1)))) (aB (aV "codes" (aJ (cC X) (esC (cW (aZ X) (aJ X.c_SM (esC (eK .none) (esC (eN "new") (esC (eN "old") esN)))) esN) esN))) (aB (aV "groups" (bU (jQ X.gc 6 X.gv) [".0","group"] (iG (cW (aS X) (aJ X.c_SM (esC (eK .none) (esC (eN "new") (esC (eN "old") esN)))) (esC (eN "n") esN))) (aN "group") (tK be) (bA (aJ (cC X) (esC (eN "group") esN))))) (sK .next))) (aB (aV "codes" (cW (aZ X) (aJ X.c_SM (esC (eK .none) (esC (eN "old") (esC (eN "new") esN)))) esN)) (aB (aV "groups" (aJ (k7 (jQ X.gc 6 X.gv) (λi=>i)) (esC (cW (aS X) (aJ X.c_SM (esC (eK .none) (esC (eN "old") (esC (eN "new") esN)))) (esC (eN "n") esN)) esN))) (sK .next)))) (aB (ck1 X) (aB (ck2 (C:=C)) (aB (ck3 X) (aB (ck4 X) (aB (bE (c9 (eN "heads") (hdsE (C:=C)))) (aB (ck5 X) (aB (pa1 X) (aB (pa2 (C:=C)) (sK .next))))))))))))
def aAd(X:XX C):SF:=(aV "paths" (aA aH (aA aH (cX (esC (cX (esC (cS (eK (.int 1))) (esC (cS (eK (.int 1))) (esC (cS (eK (.int 1))) (esC (cS (eK (.int 1))) esN))))) esN)) (eN "paths")) (cX (esC (bU (bB C) [".0","version"] (iL (eN "versions")) (aN "version") (tK be) (bA (aJ b5 (esC (eN "version") esN)))) esN))))
def aI9(X:XX C):SF:=(aV "due" (cX esN))
def dfE:EF:=(bU (kU C) [".0","k"] (iR (aJ gN (esC (eK (.int 4)) esN))) (aN "k") (tK be) (bA (aA bL (aA aG (eN "two") (eN "k")) (aA aG (eN "one") (eN "k")))))
def one4:EF:=cX (esC (eK (.int 1)) (esC (eK (.int 1)) (esC (eK (.int 1)) (esC (eK (.int 1)) esN))))
def zB:SF:=(aB (sIf (tE (aA (aX not) one4 (dfE (C:=C)))) (aB (bE (c9 (eN "due") (bH (esC (aA aH (aA aG (eN "one") (eK (.int 0))) (eK (.int 1))) (esC (aA aG (eN "two") (eK (.int 0))) (esC (aA aH (aA aG (eN "one") (eK (.int 3))) (eK (.int 1))) (esC (aA aG (eN "two") (eK (.int 3))) esN))))))) (sK .next)) (sK .next)) (sK .next))
def aAc(X:XX C):SF:=(gP (kZip C) (iZ (esC (eN "paths") (esC (eX (eN "paths") (eK (.int 1)) (eK .none) (eK .none)) esN))) (cM 2 (asC (aN "one") (asC (aN "two") asN))) (zB (C:=C)))
def aAb:SF:=(sIf (tE (aA (aX id) (aA gQ (aJ yG (esC (eN "script") esN)) (eK (.int 2))) (eK (.int 0)))) (aB (dQ (aA (aX id) (aJ (dB X) (esC (aJ (dB X) (esC (aA aG (eN "heads") (eK (.int 0))) (esC (aA aG (eN "heads") (eK (.int 1))) esN))) (esC (aA aG (eN "heads") (eK (.int 2))) esN))) (eN "due"))) (sK .next)) (sK .next))
def aAa:SF:=(dQ (aA (aX id) (aJ (dB X) (esC (aA aG (eN "heads") (eK (.int 0))) (esC (aJ (dB X) (esC (aA aG (eN "heads") (eK (.int 1))) (esC (aA aG (eN "heads") (eK (.int 2))) esN))) esN))) (eN "due")))
def aAj:SF:=(aB (aAi X) (aB (aAh X) (aB (aAg X) (aB (aAf X) (aB (aAe X) (aB (aAd X) (aB (aI9 X) (aB (aAc X) (aB (aAb X) (aB (aAa X) (sK .next)))))))))))
def c_law:CF:=jG ["script"] [] (aAj X)
def av(l:aq Int)(i:Int):Int:=l.getD i.toNat 0
def Mt(a b:aq Int)(i j k:Int):Prop:=∀ t,0<=t->t<k->av a (i+t)=av b (j+t)
structure Wd where
 al:Int
 ah:Int
 bl:Int
 bh:Int
structure In(a b:aq Int)(w:Wd)(i j k:Int):Prop where
 i0:w.al<=i
 i1:i+k<=w.ah
 j0:w.bl<=j
 j1:j+k<=w.bh
 k0:0<=k
 m:Mt a b i j k
def Ge(i j k i' j' k':Int):Prop:=k'<k\/(k'=k/\(i<i'\/(i=i'/\j<=j')))
structure Best(a b:aq Int)(w:Wd)(i j k:Int):Prop where
 n:In a b w i j k
 z:k=0->i=w.al/\j=w.bl
 g:∀ i' j' k',In a b w i' j' k'->0<k'->Ge i j k i' j' k'
theorem Ge.pos{b a:Int}(h:Ge i j k b c a)(h':0<a):0<k:=by
 rcases h with h |⟨e,_⟩
 ·exact Int.lt_trans h' h
 ·exact e▸h'
theorem Best.uniq(h:Best a b w i j k)(h':Best a b w d f c):i=d/\j=f/\k=c:=by
 refine Or.elim (Int.lt_or_eq_of_le h.n.k0) (λp=>?_) λp=>?_
 ·have q:=h'.g _ _ _ h.n p
  exact(by
   intro i j k d f c h h'
   rcases h with h |⟨e,h⟩
   ·rcases h' with h' |⟨o,_⟩
    ·exact bv h (Int.lt_asymm h')
    ·exact bv h (o▸kZ _)
   ·rcases h' with h' |⟨_,h'⟩
    ·exact bv h' (e▸kZ _)
    ·rcases h with h |⟨l,h⟩
     ·rcases h' with h' |⟨r,_⟩
      ·exact bv h (Int.lt_asymm h')
      ·exact bv h (r▸kZ _)
     ·rcases h' with h' |⟨_,h'⟩
      ·exact bv h' (l▸kZ _)
      ·exact⟨l,Int.le_antisymm h h',e.symm⟩:∀{i j k d f c:Int}(h:Ge i j k d f c)(h':Ge d f c i j k),i=d/\j=f/\k=c) (h.g _ _ _ h'.n (q.pos p)) q
 ·refine Or.elim (Int.lt_or_eq_of_le h'.n.k0) (λp'=>(bv ((h.g _ _ _ h'.n p').pos p') (p▸kZ _))) λp'=>?_
  ·have m:=h'.z p'.symm
   exact⟨(h.z p.symm).1.trans m.1.symm,(h.z p.symm).2.trans m.2.symm,p.symm.trans p'⟩
structure Suf(a b:aq Int)(w:Wd)(i j k:Int):Prop where
 k0:0<=k
 i0:w.al<=i-k+1
 j0:w.bl<=j-k+1
 m:Mt a b (i-k+1) (j-k+1) k
 x:w.al<=i-k->w.bl<=j-k->av a (i-k)≠av b (j-k)
theorem Suf.zero(e:w.al<=i+1)(c:w.bl<=j+1)(x:w.al<=i->w.bl<=j->av a i≠av b j):Suf a b w i j 0:=⟨c4 _,A128 e,A128 c,λt d f=>bv f (kz.mpr d),by simpa using x⟩
theorem Suf.succ(h:Suf a b w (i-1) (j-1) k)(e:av a i=av b j):Suf a b w i j (k+1):=by
 have c:i-(k+1)=i-1-k:=A129
 have d:j-(k+1)=j-1-k:=A129
 refine⟨Int.add_nonneg h.k0 (by decide),by exact rwL c h.i0,by exact rwL d h.j0,λt f g=>?_,by exact rwL c (rwL d h.x)⟩
 rw[c,d]
 by_cases q:t=k
 ·exact rwL (A130 q:i-1-k+1+t=i) (rwL (A131 (A130 q:i-1-k+1+t=i)) e)
 ·exact h.m t f (A132 g q)
theorem Suf.max(h:Suf a b w i j k)(n:In a b w d e c)(g:d+c=i+1)(f:e+c=j+1):c<=k:=by
 refine kz.mp λq=>?_
 have m:=n.m (c-1-k) (zzI1 0x5a01f6904103d0a907da00087 [k,c] ⋯ q) (zzI1 0x5a41f6807da410400a803d087 [k,c] ⋯ h.k0)
 rw[(A135 g),(A135 f)]at m
 exact h.x (by exact A136 q (A135 g) n.i0) (by exact A136 q (A135 f) n.j0) m
structure BU(a b:aq Int)(w:Wd)(x y i j k:Int):Prop where
 n:In a b w i j k
 z:k=0->i=w.al/\j=w.bl
 e:0<k->i+k<=x\/(i+k=x+1/\j+k<=y)
 g:∀ i' j' k',In a b w i' j' k'->0<k'->(i'+k'<=x\/(i'+k'=x+1/\j'+k'<=y))->Ge i j k i' j' k'
theorem BU.start(h1:w.al<=w.ah)(h2:w.bl<=w.bh):BU a b w w.al w.bl w.al w.bl 0:=by
 refine⟨⟨c4 _,A137 h1,c4 _,A137 h2,c4 _,λt h1 h2=>bv h2 (kz.mpr h1)⟩,λe=>⟨rfl,rfl⟩,λq=>bv q (kZ _),λi' c d n q r=>?_⟩
 have:=n.i0;have:=n.j0;omega
theorem BU.skip(h:BU a b w x y i j k)(s:y<=l)(t:∀ c,y<=c->c<l->w.bl<=c->c<w.bh->av a x≠av b c):BU a b w x l i j k:=by
 refine⟨h.n,h.z,λq=>(h.e q).imp_right λr=>⟨r.1,dw r.2 s⟩,λi' o d n q r=>?_⟩
 by_cases p:i'+d<=x\/(i'+d=x+1/\o+d<=y)
 ·exact h.g i' o d n q p
 ·have f:=A140 r p
  exact bv (rwR f (n.m (d-1) (zzI1 0x141f68040f42a01f40f40087 [d] ⋯ q) (zzI0 0x6807d07da01002 [d] ⋯))) (t _ (zzI2 0x8890a07da41ac0b02a81f690680031e8b29ac0081f6a029a000c5aa9a00086107 [i',d,x,o,y] ⋯ p f) (zzI2 0x4426c07d07da41ac0002a81f690680031eca6b00207da80a6800316aa68002187 [i',d,x,o,l] ⋯ r f) (by exact zzI2 0x1507da01a80a42aa9087a01f40f40087 [d,w.bl,o] ⋯ q n.j0) (by exact zzI1 0x16a07d07da41a00002aa9a00087 [o,d,w.bh] ⋯ n.j1))
theorem BU.row(h:BU a b w x w.bh i j k):BU a b w (x+1) w.bl i j k:=by
 refine⟨h.n,h.z,λq=>.inl ?_,λi' c d n q r=>h.g i' c d n q ?_⟩
 ·refine Or.elim (h.e q) (λr=>?_) λr=>?_<;>omega
 ·have:=n.j0;have:=n.j1;omega
theorem BU.at{e:Int}(h:BU a b w x y i j k)(n:In a b w d e c)(r:0<c)(t:d+c<=x\/(d+c=x+1/\e+c<=y+1))(u: ¬(d+c<=x\/(d+c=x+1/\e+c<=y))):d+c=x+1/\e+c=y+1:=by
 rcases t with t |⟨t1,t2⟩
 ·exact bv (.inl t) u
 ·exact⟨t1,Int.le_antisymm t2 (kz.mp λq=>u (.inr ⟨t1,Int.le_of_lt_add_one q⟩))⟩
theorem BU.step(h:BU a b w x y i j k)(s:Suf a b w x y d)(o:x<w.ah)(l:y<w.bh)(p:0<d):BU a b w x (y+1) (if k<d then x-d+1 else i) (if k<d then y-d+1 else j) (if k<d then d else k):=by
 by_cases q:k<d
 ·simp only[ca q]
  refine⟨⟨s.i0,A145 o,s.j0,A145 l,s.k0,s.m⟩,λz=>(A146 p z).elim,λA=>.inr ⟨(zzI0 0x141f6802907da68040003 [x,d] ⋯),(zzI0 0x41f6802907da68040002 [y,d] ⋯)⟩,λi' f c n r t=>?_⟩
  by_cases u:i'+c<=x\/(i'+c=x+1/\f+c<=y)
  ·rcases h.g i' f c n r u with v |⟨v,_⟩
   ·exact .inl (Int.lt_trans v q)
   ·exact .inl (v▸q)
  ·have e:=BU.at h n r t u
   refine Or.elim (Int.lt_or_eq_of_le (s.max n e.1 e.2)) (λv=>(.inl v)) λv=>?_
   ·exact .inr ⟨v,.inr ⟨zzI2 0x50522a01f6da81003b690c707db00a6b00307da80a68003147 [i',c,x,f,y,d] ⋯ e v,zzI2 0x128ac1f6db01002b690c707db00a6b00307da80a68003147 [i',c,x,f,y,d] ⋯ e v⟩⟩
 ·simp only[bz q]
  refine⟨h.n,h.z,λz=>(h.e z).imp_right λr=>⟨r.1,zzI1 0x501f6c029ac00aca6b00207da80a68003147 [i,k,x,j,y] ⋯ r⟩,λi' f c n r t=>?_⟩
  by_cases u:i'+c<=x\/(i'+c=x+1/\f+c<=y)
  ·exact h.g i' f c n r u
  ·have e:=BU.at h n r t u
   have v:=dw (s.max n e.1 e.2) (kz.mp q)
   refine Or.elim (Int.lt_or_eq_of_le v) (λv=>(.inl v)) λv=>?_
   ·refine .inr ⟨v,Or.elim (h.e (v▸r)) (λz=>(.inl (zzI3 0x522a01f6e002aadb80087b690c707db00a6b00307da80a68003147 [i',c,x,f,y,k,i] ⋯ e v z))) λz=>?_⟩
    ·exact .inr ⟨zzI3 0x4905122a2e0ecb6f00207da80b6e003147b690c707db00a6b00307da80a68003147 [i',c,x,f,y,k,i,j] ⋯ e v z,zzI3 0x1428aef0acb6f00207da80b6e003147b690c707db00a6b00307da80a68003147 [i',c,x,f,y,k,i,j] ⋯ e v z⟩
theorem BU.done(h:BU a b w w.ah w.bl i j k):Best a b w i j k:=⟨h.n,h.z,λi' c d n q=>h.g i' c d n q (.inl n.i1)⟩
def Row(a b:aq Int)(w:Wd)(x y:Int)(g:Int->bc Int):Prop:=∀ c,if w.bl<=c/\c<y/\w.al<=x/\av a x=av b c then ∃ k,g c=am k/\Suf a b w x c k else g c=ba
theorem Row.skip(h:Row a b w x y g)(e:y<=d)(f:∀ c,y<=c->c<d->w.bl<=c->av a x≠av b c):Row a b w x d g:=λc=>by
 have:=h c
 by_cases q:w.bl<=c/\c<d/\w.al<=x/\av a x=av b c
 ·rw[ca q]
  by_cases r:c<y
  ·rwa [ca ⟨q.1,r,q.2.2⟩]at this
  ·exact bv q.2.2.2 (f c (kz.mp r) q.2.1 q.1)
 ·rw[bz q]
  rwa [bz λr=>q ⟨r.1,zzI2 0x426907dac00afb83b6c085a01f6b00216ba82147a68087 [y,d,w.bl,c,w.al,x,av a x,av b c] ⋯ e r,r.2.2⟩]at this
theorem Row.step(h:Row a b w x y g)(d:w.bl<=y)(f:w.al<=x)(e:av a x=av b y)(s:Suf a b w x y k):Row a b w x (y+1) (λc=>if c=y then am k else g c):=λc=>by
 have:=h c
 by_cases q:c=y
 ·exact rwL q (rwL (ca ⟨d,(zzI0 0x41f68001f68002 [y] ⋯),f,e⟩) ⟨k,ca rfl,s⟩)
 ·dsimp only
  refine rwL (bz q) ?_
  by_cases r:w.bl<=c/\c<y/\w.al<=x/\av a x=av b c
  ·rw[ca r]at this
   rw[ca ⟨r.1,zzI1 0x4207da8007da400aeb43b2b085a81f69002169a02147 [w.bl,c,y,w.al,x,av a x,av b c] ⋯ r,r.2.2⟩];exact this
  ·rw[bz r]at this
   rw[bz λz=>r ⟨z.1,zzI2 0x10209a41f68002bad0ecac2141f69001f68002168a82147a29a03107 [c,y,w.bl,w.al,x,av a x,av b c] ⋯ q z,z.2.2⟩];exact this
theorem Row.next(h:Row a b w (x-1) w.bh g)(j:w.al<=x)(i:w.bl<=y)(d:y<w.bh)(e:av a x=av b y):Suf a b w x y ((g (y-1)).getD 0+1):=by
 have:=h (y-1)
 refine Suf.succ ?_ e
 by_cases q:w.bl<=y-1/\y-1<w.bh/\w.al<=x-1/\av a (x-1)=av b (y-1)
 ·rw[ca q]at this
  exact xEA this λk h1 c=>rwL h1 c
 ·rw[bz q]at this
  exact rwL this (.zero (A159 j) (A159 i) λh1 c f=>q ⟨c,zzI1 0x5a41f41f680400a907da00087 [y,w.bh] ⋯ d,h1,f⟩)
theorem Row.zero(h:x<w.al\/y<=w.bl):Row a b w x y (λq=>ba):=λc=>by
 rw[bz (zzI1 0x54468bad0e8a4216a07db00085b2b08512ba82a41f68002187 [x,w.al,y,w.bl,c,av a x,av b c] ⋯ h)]
class inductive Idx(b:aq Int)(v:Int):Int->aq Int->Prop
 |nil {lo:Int} (h:∀ c:Int,lo<=c->c<b.length->av b c≠v):Idx b v lo []
 |cons {lo j:Int}{js:aq Int} (h:lo<=j) (hl:j<b.length) (e:av b j=v) (n:∀ c:Int,lo<=c->c<j->av b c≠v) (r:Idx b v (j+1) js):Idx b v lo (j::js)
theorem Idx.no(h:Idx b v y (j::js)):∀ c,y<=c->c<j->av b c≠v:=by
 cases h with
 |cons _ _ _ n _=>exact n
structure WOk(a b:aq Int)(w:Wd):Prop where
 a0:0<=w.al
 a1:w.al<=w.ah
 a2:w.ah<=a.length
 b0:0<=w.bl
 b1:w.bl<=w.bh
 b2:w.bh<=b.length
structure T3 where
 i:Int
 j:Int
 k:Int
def jE(w:Wd)(i j:Int)(q:aq Wd):aq Wd:=if w.al<i/\w.bl<j then⟨w.al,i,w.bl,j⟩::q else q
def kH(w:Wd)(i j k:Int)(q:aq Wd):aq Wd:=if i+k<w.ah/\j+k<w.bh then⟨i+k,w.ah,j+k,w.bh⟩::q else q
class inductive Run(a b:aq Int):aq Wd->aq T3->aq T3->Prop
 |nil {m:aq T3}:Run a b [] m m
 |zero {w:Wd}{q:aq Wd}{m r:aq T3}{i j:Int} (B:Best a b w i j 0) (h:Run a b q m r):Run a b (w::q) m r
 |pos {w:Wd}{q:aq Wd}{m r:aq T3}{i j k:Int} (B:Best a b w i j k) (p:0<k) (h:Run a b (kH w i j k (jE w i j q)) (m++[⟨i,j,k⟩]) r):Run a b (w::q) m r
theorem Run.uniq(h:Run a b q m r)(h':Run a b q m e):r=e:=by
 induction h with
 |nil=>cases h';rfl
 |zero B h d=>
  cases h' with
  |zero c h'=>exact d h'
  |pos c p h'=>exact bv ((B.uniq c).2.2▸p) (kZ _)
 |pos B p h d=>
  cases h' with
  |zero c h'=>exact bv ((c.uniq B).2.2▸p) (kZ _)
  |pos c i h'=>
   refine xAA (B.uniq c) λe1 g f=>?_
   subst e1 g f
   exact d h'
def wsz(w:Wd):Nat:=2*(w.ah-w.al).toNat+1
def mu:aq Wd->Nat
 | []=>0
 |w::q=>wsz w+mu q
theorem xB:∀ q:aq Wd,q.length<=mu q
 | []=>Nat.le_refl _
 |w::q=>by
  rw[(by exact λw q=>rfl:∀(w:Wd)(q:aq Wd),mu (w::q)=wsz w+mu q),ea,wa]
  exact Nat.add_le_add (ou _ _) (xB q)
theorem yX(h:WOk a b w)(B:Best a b w i j k)(o:∀ v∈q,WOk a b v):∀ v∈kH w i j k (jE w i j q),WOk a b v:=by
 have p:=B.n.i1;have r:=B.n.j0;have g:=B.n.j1;have l:=B.n.k0
 have f:=Int.add_le_add_left l i;have d:=Int.add_le_add_left l j
 rw[jq]at f d
 have m:∀ v∈jE w i j q,WOk a b v:=λv c=>by
  unfold jE at c
  split at c
  ·refine Or.elim (e6.mp c) (λe=>(e▸⟨h.a0,B.n.i0,dw f (dw p h.a2),h.b0,r,dw d (dw g h.b2)⟩)) λe=>?_
   ·exact o v e
  ·exact o v c
 intro v c
 unfold kH at c
 split at c
 ·refine Or.elim (e6.mp c) (λe=>(e▸⟨dw h.a0 (dw B.n.i0 f),p,h.a2,dw h.b0 (dw r d),g,h.b2⟩)) λe=>?_
  ·exact m v e
 ·exact m v c
theorem mu_sub(B:Best a b w i j k)(p:0<k)(q:aq Wd):mu (kH w i j k (jE w i j q))+1<=mu (w::q):=by
 have d:=B.n.i1
 have e:mu (jE w i j q)<=2*(i-w.al).toNat+1+mu q:=by
  delta jE
  split
  ·exact Nat.le_refl _
  ·exact ou _ _
 have c:mu (kH w i j k (jE w i j q))<=2*(w.ah-(i+k)).toNat+1+mu (jE w i j q):=by
  delta kH
  split
  ·exact Nat.le_refl _
  ·exact ou _ _
 exact A183 p B.n.i0 d e c rfl
def nad(c:T3):aq T3->aq T3
 | []=>if c.k=0 then [] else [c]
 |x::xs=>if c.i+c.k=x.i/\c.j+c.k=x.j then nad ⟨c.i,c.j,c.k+x.k⟩ xs else(if c.k=0 then [] else [c])++nad x xs
theorem zC(c:T3):nad c []=if c.k=0 then [] else [c]:=rfl
theorem zD(c x:T3)(xs:aq T3):nad c (x::xs)=if c.i+c.k=x.i/\c.j+c.k=x.j then nad ⟨c.i,c.j,c.k+x.k⟩ xs else(if c.k=0 then [] else [c])++nad x xs:=rfl
noncomputable abbrev Nv:=aq (Str×bc V)
def look(l:Nv):Lo:=λx=>match l.lookup x with |some o=>o |none=>ba
def put(l:Nv)(x:Str)(v:V):Nv:=match l with
 | []=>[(x,am v)]
 | (y,u)::r=>bif x==y then(y,am v)::r else(y,u)::put r x v
theorem dJ(y z:Str)(u:bc V)(r:Nv):((z,u)::r).lookup y=if y=z then am u else r.lookup y:=by
 rw[List.lookup]
 by_cases h:y=z
 ·subst h;rw[qr,ca rfl]
 ·rw[bz h,show (y==z)=false by simpa using h]
theorem pQ(x:Str)(v:V)(y:Str):∀ l:Nv,(put l x v).lookup y=if y=x then am (am v) else l.lookup y
 | []=>by rw[(by exact λx v=>rfl:∀(x:Str)(v:V),put [] x v= [(x,am v)]),dJ]
 | (z,u)::r=>by
  rw[(by exact λy u r x v=>rfl:∀(y:Str)(u:bc V)(r:Nv)(x:Str)(v:V),put ((y,u)::r) x v=bif x==y then(y,am v)::r else(y,u)::put r x v)]
  by_cases h:x=z
  ·subst h
   rw[qr,mi,dJ,dJ]
   by_cases a:y=x
   ·rw[ca a,ca a]
   ·rw[bz a,bz a,bz a]
  ·rw[show (x==z)=false by simpa using h,ow,dJ,dJ,pQ]
   by_cases a:y=z
   ·rw[ca a,bz (λq=>h (q.symm.trans a)),ca a]
   ·rw[bz a,bz a]
theorem aD(l:Nv)(x:Str)(v:V):upd (look l) x v=look (put l x v):=by
 funext y
 show(if y=x then am v else _)=match (put l x v).lookup y with |some o=>o |none=>ba
 rw[pQ]
 by_cases h:y=x
 ·rw[ca h,ca h]
 ·rw[bz h,bz h];rfl
theorem kch{B:Prop}(h:A=B)(b:B):A:=h.mpr b
structure GoK(I:Lo->MH->Prop)(Q K:SK):Prop where
 nx:∀ {lo H},I lo H->K .next lo H
 ct:∀ {lo H},I lo H->K .cont lo H
 br:∀ {lo H},Q .next lo H->K .brk lo H
 rt:∀ {v lo H},Q (.ret v) lo H->K (.ret v) lo H
theorem GoK.loop{a:Lo->MH->SK->Prop}(h:∀ {lo H},I lo H->a lo H Q):GoK I Q (vM a Q):=⟨h,h,id,id⟩
theorem gC(b:aq V->Lo->MH->Prop)(d:∀ {a lo H},b a lo H->lst H (.ref r)=am vs)(g:∀ {lo H},b [] lo H->Q .next lo H)(hs:∀ {v a lo H K},b (v::a) lo H->GoK (b a) Q K->tgt v lo H λlo1 H1=>body lo1 H1 K):∀ (a:aq V) (p:Nat){lo:Lo}{H:MH},vs.drop p=a->b a lo H->dK (bB C) tgt body (a.length+1) (r,p) lo H Q:=λn=>by
 induction n with
 |nil=>
  refine λp lo H c h=>(Lf.mk (p:=ba) ?_ (g h))
  show(lst H (.ref r)).map _=_
  rw[d h,qd,gV (nN.mp c)];rfl
 |cons v a f=>
  intro p lo H c h
  have e:vs[p]? =am v:=by rw[<-uc,c];rfl
  refine Lf.mk (p:=am (v,(r,p+1))) ?_ ?_
  ·show(lst H (.ref r)).map _=_
   rw[d h,qd,e];rfl
  ·exact hs h (.loop λh'=>f (p+1) (by rw[<-tq,c];rfl) h')
theorem oS(a:Int->Lo->MH->Prop)(d:∀ {lo H},a e lo H->Q .next lo H)(hs:∀ {x lo H K},x<e->a x lo H->GoK (a (x+1)) Q K->tgt (.int x) lo H λlo1 H1=>body lo1 H1 K):∀ (n:Nat) (x:Int){lo:Lo}{H:MH},x+n=e->a x lo H->dK (kU C) tgt body (n+1) (x,n,1) lo H Q:=λn=>by
 induction n with
 |zero=>
  intro x lo H b h
  have:=A162 b
  subst this
  exact d h
 |succ n c=>
  exact λx lo H b h=>(hs (A163 b) h (.loop λh'=>c (x+1) (A164 b) h'))
theorem while_{b:SF}(a:Nat->Lo->MH->Prop)(hs:∀ {m lo H},a m lo H->t lo H λc H1=>bif c then ∀ K,GoK (λlo' H'=>∃ m',m'<m/\a m' lo' H') Q K->b lo H1 K else Q .next lo H1)(d:∀ {lo H}{P f:ec->MH->Prop},t lo H P->(∀ c H',P c H'->f c H')->t lo H f):∀ (n m:Nat){lo:Lo}{H:MH},m<n->a m lo H->runW t b n lo H Q:=λn=>by
 induction n with
 |zero=>
  exact λq q q e q=>(bv e (Nat.not_lt_zero _))
 |succ n j=>
  intro m lo H e h
  exact d (hs h) λc H' p=>by
    cases c with
    |true=>exact p _ (.loop fun⟨m',g,i⟩=>j m' (Nat.lt_of_lt_of_le g (Nat.le_of_lt_succ e)) i)
    |false=>exact p
def LI(H:MH)(r:Nat)(l:aq Int):Prop:=lst H (.ref r)=am (l.map V.int)
def Hx(H H':MH):Prop:=∀ (i:Nat) (m:MO),H[i]? =am m->H'[i]? =am m
theorem Hx.refl(H:MH):Hx H H:=λq q e=>e
theorem Hx.trans{H1:MH}(a:Hx H1 d)(b:Hx d c):Hx H1 c:=λi m e=>b i m (a i m e)
theorem Hx.app(H l:MH):Hx H (H++l):=λi m e=>by
 exact rwL (jx (List.getElem?_eq_some_iff.mp e).1) e
theorem Hx.set{H1:MH}(h:Hx H H1)(a:H[i]? =ba):Hx H (H1.set i m):=λj x e=>by
 have:i≠j:=λq=>by rw[q,e]at a;exact cyM a
 exact rwL (iy this) (h j x e)
theorem Hx.lst(h:Hx H H')(e:lst H v=am vs):lst H' v=am vs:=by
 exact xEA (bn.mp e) λi b e=>xEA (bn.mp e) λm a e=>bn.mpr ⟨i,b,bn.mpr ⟨m,h _ _ a,e⟩⟩
theorem Hx.li(h:Hx H H')(e:LI H r l):LI H' r l:=h.lst e
theorem aT(H:MH)(m:MO):(H++[m])[H.length]? =am m:=by simp
theorem vL(H:MH)(vs:aq V):lst (H++[.list vs]) (.ref H.length)=am vs:=by
 show((H++[MO.list vs])[H.length]?).bind _=_
 rw[aT];rfl
theorem aI(H:MH):H[H.length]? =ba:=gV (Nat.le_refl _)
def B2J(H:MH)(b:aq Int)(f:Int->bc V):Prop:=∀ v,(f v=ba/\Idx b v 0 [])\/∃ r js,f v=am (.ref r)/\LI H r js/\Idx b v 0 js
theorem B2J.hx(h:B2J H b f)(e:Hx H H'):B2J H' b f:=λv=>(h v).imp_right fun⟨r,js,a,c,d⟩=>⟨r,js,a,e.li c,d⟩
structure SM(H:MH)(s ra rb rd rj n:Nat)(fs:Str->bc V)(f:Int->bc V)(a b:aq Int):Prop where
 o:H[s]? =am (.inst fs)
 fa:fs "a" =am (.ref ra)
 fb:fs "b" =am (.ref rb)
 fd:fs "b2j" =am (.ref rd)
 fj:fs "bjunk" =am (.ref rj)
 ia:LI H ra a
 ib:LI H rb b
 d:H[rd]? =am (.dict n f)
 j:H[rj]? =am .eset
 bj:B2J H b f
 al:a.length<1000000
 bl:b.length<1000000
theorem SM.hx{rd:Nat}(h:SM H s ra rb rd c n fs f a b)(e:Hx H H'):SM H' s ra rb rd c n fs f a b:=⟨e _ _ h.o,h.fa,h.fb,h.fd,h.fj,e.li h.ia,e.li h.ib,e _ _ h.d,e _ _ h.j,h.bj.hx e,h.al,h.bl⟩
theorem oZ(h1:lo "self" =am (.ref s))(h2:H[s]? =am (.inst fs))(a:fs x=am v)(q:Q v H):eP x (eN "self") lo H Q:=Lf.mk h1 (Lf.mk rfl (Lf.mk (by rw[h2];rfl) (Lf.mk a q)))
theorem fW:∀ l:Nv,(l.all λp=>p.2.isNone)=be->look l=lo0
 | [],_=>rfl
 | (y,u)::r,h=>by
  rw[List.all_cons,Bool.and_eq_true]at h
  funext x
  show(match ((y,u)::r).lookup x with |some o=>o |none=>ba)=ba
  rw[dJ]
  by_cases q:x=y
  ·rw[ca q];exact Option.isNone_iff_eq_none.mp h.1
  ·rw[bz q];exact congrFun (fW r h.2) x
theorem aDd(h:f lo H λv H1=>g v lo H1 λlo' a=>K .next lo' a):dF f g lo H K:=h
theorem cE(h:f lo H λv H1=>K .next (upd lo x v) H1):aV x f lo H K:=h
theorem jI(h:f lo H λv H1=>K (.ret v) lo H1):dQ f lo H K:=h
theorem aK(h:f lo H (bW g K)):aB f g lo H K:=h
theorem uY(h:t lo H λb H1=>bif b then f lo H1 K else g lo H1 K):sIf t f g lo H K:=h
theorem eO(h:g lo H λvs H1=>vs.length<100/\Q (.tup vs) H1):bH g lo H Q:=h
theorem pY(h:Q (.ref H.length) (H++[.list []])):cX esN lo H Q:=(by exact λ{g lo H Q} h a=>a h λvs H' z=>xA z λh1 c=>Lf.mk (by rw[mkL,ca h1]) c:∀{g:EFs}{lo:Lo}{H:MH}{Q:EK}(h:g lo H λvs H1=>vs.length<1000000/\Q (.ref H1.length) (H1++[.list vs]))(a:∀ {P b:aq V->MH->Prop},g lo H P->(∀ vs H',P vs H'->b vs H')->g lo H b),cX g lo H Q) ⟨by decide,h⟩ (λp k=>k _ _ p)
theorem aO(h:f lo H λv H1=>g lo H1 λvs a=>Q (v::vs) a):esC f g lo H Q:=h
theorem bF(h:Q [] H):esN lo H Q:=h
theorem bJ(h:f1 lo H λa H1=>f2 lo H1 λb c=>Lp (g a b c) Q):aA g f1 f2 lo H Q:=h
theorem bG(h:fs lo H λvs H1=>g vs H1 Q):aJ g fs lo H Q:=h
theorem cL(h:Q v H):eK v lo H Q:=h
theorem aW(e:lo x=am v)(h:Q v H):eN x lo H Q:=Lf.mk e h
theorem Lp.mk(e:o=am (v,H))(h:Q v H):Lp o Q:=Lf.mk e h
theorem kJ{K:ItK C}{a:IF K}{b:SF}(h:a lo H λit H1=>∃ n,dK K tgt b n it lo H1 Q):gP K a tgt b lo H Q:=h
def fE(s ra rb rd rj nt g:bc V)(al ah bl bh:Int)(bi bj bs i o2 o3 j k:bc V):Nv:=[("self",s),("alo",am (.int al)),("ahi",am (.int ah)),("blo",am (.int bl)),("bhi",am (.int bh)),("a",ra),("b",rb),("b2j",rd),("isbjunk",rj),("besti",bi),("bestj",bj),("bestsize",bs),("j2len",g),("nothing",nt),
  ("i",i),("j2lenget",o2),("newj2len",o3),("j",j),("k",k)]
def fN:Nv:=[("self",ba),("alo",ba),("ahi",ba),("blo",ba),("bhi",ba),("a",ba),("b",ba),("b2j",ba),("isbjunk",ba),("besti",ba),("bestj",ba),("bestsize",ba),("j2len",ba),("nothing",ba),
  ("i",ba),("j2lenget",ba),("newj2len",ba),("j",ba),("k",ba)]
theorem flm_1{rd:Nat}(h:SM H s ra rb rd c n fs f a b)(k:K .next (look (fE (am (.ref s)) (am (.ref ra)) (am (.ref rb)) (am (.ref rd)) (am (.scon c)) ba ba al g e d ba ba ba ba ba ba ba ba)) H):cR X (look (fE (am (.ref s)) ba ba ba ba ba ba al g e d ba ba ba ba ba ba ba ba)) H K:=by
 delta cR
 refine aDd (eO (aO (oZ ⋯ h.o h.fa (aO (oZ ⋯ h.o h.fb (aO (oZ ⋯ h.o h.fd (aO ((oZ ⋯ h.o h.fj (Lf.mk rfl (Lf.mk h.j ⟨rfl,bF ⟨Nat.lt_of_sub_eq_succ rfl,kch (B:=(4=4/\K .next (upd (upd (upd (upd (look (fE (am (.ref s)) ba ba ba ba ba ba al g e d ba ba ba ba ba ba ba ba)) "a" (.ref ra)) "b" (.ref rb)) "b2j" (.ref rd)) "isbjunk" (.scon c)) H)) ⋯ ⟨rfl,?_⟩⟩⟩))))))))))))
 rw[aD,aD,aD,aD]
 exact kch ⋯ k
structure FC where
 s:Nat
 ra:Nat
 rb:Nat
 rd:Nat
 rj:Nat
 nt:Nat
 w:Wd
def fL(c:FC)(g:Nat)(bi bj bs:Int)(i o2 o3 j k:bc V):Lo:=look (fE (am (.ref c.s)) (am (.ref c.ra)) (am (.ref c.rb)) (am (.ref c.rd)) (am (.scon c.rj)) (am (.ref c.nt)) (am (.ref g)) c.w.al c.w.ah c.w.bl c.w.bh (am (.int bi)) (am (.int bj)) (am (.int bs)) i o2 o3 j k)
def rowB(C:Cx):SF:=aB (aV "j2lenget" (eBd .dget okD (eN "j2len"))) (aB (aV "newj2len" rX) (aB (gP (bB C) (iL (eGet (eN "b2j") (aA aG (eN "a") (eN "i")) (eN "nothing"))) (aN "j") t8) (aB (aV "j2len" (eN "newj2len")) (sK .next))))
theorem aJg{o2 o3:bc V}:aN "j" (.int j) (fL c g bi bj bs o1 o2 o3 o4 o5) H (λlo1 H1=>t8 lo1 H1 K)=t8 (fL c g bi bj bs o1 o2 o3 (am (.int j)) o5) H K:=b3 (λlo=>t8 lo H K) (aD _ _ _)
theorem col_nf{o2 o3:bc V}:t8 (fL c g bi bj bs o1 o2 o3 (am (.int j)) o5) H K= (bif decide (j<c.w.bl) then K .cont (fL c g bi bj bs o1 o2 o3 (am (.int j)) o5) H else bif decide (j>=c.w.bh) then K .brk (fL c g bi bj bs o1 o2 o3 (am (.int j)) o5) H else colB3 (fL c g bi bj bs o1 o2 o3 (am (.int j)) o5) H K):=by kernel_rfl
theorem xY{i:Nat}(h:H[i]? =am (.dict n f)):H[i]?.bind MO.dct=am (n,f):=by rw[h];rfl
theorem col4{o2 o3:bc V}(h:K .next (fL c g (if bs<k then x-k+1 else bi) (if bs<k then j-k+1 else bj) (if bs<k then k else bs) (am (.int x)) o2 o3 (am (.int j)) (am (.int k))) H):aGn (fL c g bi bj bs (am (.int x)) o2 o3 (am (.int j)) (am (.int k))) H K:=by
 refine kch (B:=(bif decide (k>bs) then((3<100)/\3=3/\K .next (upd (upd (upd (fL c g bi bj bs (am (.int x)) o2 o3 (am (.int j)) (am (.int k))) "bestsize" (.int k)) "bestj" (.int (j-k+1))) "besti" (.int (x-k+1))) H)
  else K .next (fL c g bi bj bs (am (.int x)) o2 o3 (am (.int j)) (am (.int k))) H)) ⋯ ?_
 by_cases q:bs<k
 ·rw[ca q,ca q,ca q]at h
  refine rwL (show decide (k>bs)=be from bm q) ⟨by decide,rfl,?_⟩
  delta fL
  rw[aD,aD,aD]
  exact h
 ·rw[bz q,bz q,bz q]at h
  exact rwL (show decide (k>bs)=false from bp q) h
inductive CI(a b:aq Int)(c:FC)(g gn:Nat)(x v:Int)(Hr:MH)(rest:aq V)(lo:Lo)(H:MH):Prop
 |mk {js:aq Int}{y bi bj bs:Int}{m:Nat}{fn:Int->bc V}{gi:Int->bc Int}{o4 o5:bc V} (er:rest=js.map .int) (el:lo=fL c g bi bj bs (am (.int x)) (am (.dget g)) (am (.ref gn)) o4 o5) (hx:Hx Hr H) (hn:H[gn]? =am (.dict m fn))
   (hm:m+js.length<1000000) (hf:∀ c,fn c=(gi c).map V.int) (row:Row a b c.w x (max c.w.bl y) gi) (bu:BU a b c.w x (max c.w.bl y) bi bj bs) (ix:Idx b v y js) (yb:y<=c.w.bh):CI a b c g gn x v Hr rest lo H
inductive CE(a b:aq Int)(c:FC)(g gn:Nat)(x:Int)(Hr:MH)(lo:Lo)(H:MH):Prop
 |mk {bi bj bs:Int}{m:Nat}{fn:Int->bc V}{gi:Int->bc Int}{o4 o5:bc V} (el:lo=fL c g bi bj bs (am (.int x)) (am (.dget g)) (am (.ref gn)) o4 o5) (hx:Hx Hr H) (hn:H[gn]? =am (.dict m fn)) (hf:∀ c,fn c=(gi c).map V.int)
   (row:Row a b c.w x c.w.bh gi) (bu:BU a b c.w x c.w.bh bi bj bs):CE a b c g gn x Hr lo H
theorem CE.of(p:lo=fL c g bi bj bs (am (.int x)) (am (.dget g)) (am (.ref gn)) o4 o5)(s:Hx i H)(r:H[gn]? =am (.dict m l))(t:∀ c,l c=(gi c).map V.int)(f:Row a b c.w x (max c.w.bl y) gi)(u:BU a b c.w x (max c.w.bl y) bi bj bs)(d:∀ z,y<=z->z<c.w.bh->av b z≠av a x)(k:c.w.bl<=c.w.bh)(n:y<=c.w.bh):CE a b c g gn x i lo H:=by
 exact .mk p s r t (f.skip (Int.max_le.mpr ⟨k,n⟩) λz e h q j=>d z (dw (ud _ _) e) h j.symm) (u.skip (Int.max_le.mpr ⟨k,n⟩) λz e h q j o=>d z (dw (ud _ _) e) h o.symm)
theorem Row.pos(h:Row a b w x y g)(c:Int):0<=(g c).getD 0:=by
 have:=h c
 split at this
 ·exact xEA this λk e s=>rwL e s.k0
 ·exact rwL this (c4 _)
theorem fQ{x:Int}{n:Nat}(h0:0<=x)(h1:x<n):jt x n=am x.toNat:=by
 unfold jt
 exact rwL (bz (kz.mpr h0)) (ca (by rw[bm h0,bm h1];rfl))
theorem iJ{x:Int}(h:LI H r l)(h0:0<=x)(h1:x<l.length)(a:l.length<1000000):aG (.ref r) (.int x) H=am (.int (av l x),H):=by
 show((lst H (.ref r)).bind (at_ x)).map _=_
 rw[h]
 show(at_ x (l.map V.int)).map _=_
 delta at_
 rw[ca ⟨zzI1 0x16807da1ec3283d1400a803d087 [x] ⋯ h0,A166 h1 a⟩,bg,fQ h0 h1]
 show((l.map V.int)[x.toNat]?).map _=_
 rw[(by
  intro l x h0 h1
  delta av
  rw[gh,ce,getElem?_eq_getElem ((Int.toNat_lt h0).mpr h1)];rfl:∀{l:aq Int}{x:Int}(h0:0<=x)(h1:x<l.length),(l.map V.int)[x.toNat]? =am (.int (av l x))) h0 h1];rfl
theorem Idx.len(h:Idx b v y js)(c:y<=b.length):y+js.length<=b.length:=by
 induction h with
 |nil _=>simpa using c
 |cons d a _ _ _ e=>
  exact rwL ea (A167 d (e (Int.add_one_le_of_lt a)))
def rowB3(C:Cx):SF:=aB (gP (bB C) (iL (eGet (eN "b2j") (aA aG (eN "a") (eN "i")) (eN "nothing"))) (aN "j") t8) (aB (aV "j2len" (eN "newj2len")) (sK .next))
theorem row12{o2 o3:bc V}(a:H[g]? =am (.dict n f))(h:rowB3 C (fL c g bi bj bs (am (.int x)) (am (.dget g)) (am (.ref H.length)) o4 o5) (H++[.dict 0 λq=>Option.none]) K):rowB C (fL c g bi bj bs (am (.int x)) o2 o3 o4 o5) H K:=by
 refine kch (B:=Lf H[g]? λm=>okD m=be/\rowB3 C (upd (upd (fL c g bi bj bs (am (.int x)) o2 o3 o4 o5) "j2lenget" (.dget g)) "newj2len" (.ref H.length)) (H++[.dict 0 λq=>Option.none]) K) ⋯ (Lf.mk a ⟨rfl,?_⟩)
 delta fL
 rw[aD,aD]
 exact h
inductive RI(a b:aq Int)(c:FC)(H2:MH)(x:Int)(lo:Lo)(H:MH):Prop
 |mk {g n:Nat}{bi bj bs:Int}{f:Int->bc V}{g0:Int->bc Int}{o1 o2 o3 o4 o5:bc V} (el:lo=fL c g bi bj bs o1 o2 o3 o4 o5) (hx:Hx H2 H) (hg:H[g]? =am (.dict n f)) (hf:∀ c,f c=(g0 c).map V.int)
   (row:Row a b c.w (x-1) c.w.bh g0) (bu:BU a b c.w x c.w.bl bi bj bs) (hx0:c.w.al<=x):RI a b c H2 x lo H
theorem flm_7(h:SM H c.s c.ra c.rb c.rd c.rj n fs f a b)(ht:LI H c.nt [])(F:H[g]? =am (.dict 0 λ_=>Option.none))(w:WOk a b c.w)(k:∀ {g bi bj bs o1 o2 o3 o4 o5 H'},Hx H H'->Best a b c.w bi bj bs->K .next (fL c g bi bj bs o1 o2 o3 o4 o5) H'):eF X (fL c g c.w.al c.w.bl 0 ba ba ba ba ba) H K:=by
 refine kch (B:=(rOk c.w.al c.w.ah 1=be/\∃ n,dK (kU C) (aN "i") (rowB C) n (c.w.al,rLen c.w.al c.w.ah 1,1) (fL c g c.w.al c.w.bl 0 ba ba ba ba ba) H K)) ⋯ ⟨?_,_,oS (RI a b c H) (λr=>?_) (λhx r G=>(by
  intro C c x K Q H a b n fs f M h ht w lo D I G
  cases I with
  | @mk g n0 bi bj bs f0 U o1 o2 o3 o4 o5 N hx F R t O o=>
  refine rwL N (kch (b3 (λlo=>rowB C lo H K) (aD _ _ _)) (row12 F ?_))
  have W:Hx H (H++[.dict 0 λ_=>Option.none]):=.app _ _
  have h':=h.hx (hx.trans W)
  refine kch (B:=(∃ n g,(H++[MO.dict 0 λ_=>Option.none])[c.rd]? =am (.dict n g))/\Lp (aG (.ref c.ra) (.int x) (H++[.dict 0 λ_=>Option.none])) λu M=>Lf (Ti u) λv=>Lf (M[c.rd]?.bind MO.dct) λp=>Lf ((p.2 v).getD (.ref c.nt)).rf λi=>(∃ vs,lst M (.ref i)=am vs)/\
   ∃ n,dK (bB C) (aN "j") t8 n (i,0) (fL c g bi bj bs (am (.int x)) (am (.dget g)) (am (.ref H.length)) o4 o5) M (bW (aB (aV "j2len" (eN "newj2len")) (sK .next)) K)) ⋯ ?_
  refine⟨⟨_,_,h'.d⟩,Lp.mk (iJ h'.ia (dw w.a0 o) (iw D w.a2) h'.al) (Lf.mk rfl (Lf.mk (xY h'.d) ?_))⟩
  have fj:∀ {lo H3},CE a b c g H.length x H lo H3->bW (aB (aV "j2len" (eN "newj2len")) (sK .next)) K .next lo H3:=λ{lo H3} e=>by
   cases e with
   | @mk bi bj bs m Z gi o4 o5 N fi L fm fg fk=>
   refine rwL N (kch (B:=K .next (upd (fL c g bi bj bs (am (.int x)) (am (.dget g)) (am (.ref H.length)) o4 o5) "j2len" (.ref H.length)) H3) ⋯ (G.nx (.mk (aD _ _ _) (hx.trans fi) L fm ?_ fk.row (dw o (Int.le_add_one (c4 _))))))
   rw[Int.add_sub_cancel];exact fg
  have start:∀ {js:aq Int},Idx b (av a x) 0 js->CI a b c g H.length x (av a x) H (js.map .int) (fL c g bi bj bs (am (.int x)) (am (.dget g)) (am (.ref H.length)) o4 o5) (H++[.dict 0 λ_=>Option.none]):=λ{js} l=>
   .mk rfl rfl W (aT _ _) (by have:=l.len (fz _);have:=h.bl;omega) (λ_=>rfl) (.zero (.inr (Int.max_le.mpr ⟨c4 _,w.b0⟩))) (by exact rwL (oh w.b0) O) l (dw w.b0 w.b1)
  have go:∀ {r:Nat}{js:aq Int},LI H r js->Idx b (av a x) 0 js->Lf (V.ref r).rf λi=>(∃ vs,lst (H++[MO.dict 0 λ_=>Option.none]) (.ref i)=am vs)/\
    ∃ n,dK (bB C) (aN "j") t8 n (i,0) (fL c g bi bj bs (am (.int x)) (am (.dget g)) (am (.ref H.length)) o4 o5) (H++[.dict 0 λ_=>Option.none]) (bW (aB (aV "j2len" (eN "newj2len")) (sK .next)) K):=λhr l=>
   ⟨⟨_,W.li hr⟩,_,(by
    intro c g A x Q H C a b n f U v T r js lo F fe J ff o D hb fh hv hr h hQ
    subst hv
    refine gC (CI a b c g A x (av a x) T) (λh=>?_) (λh=>?_) (λh G=>?_) _ 0 rfl h
    ·cases h with |mk _ _ hx=>exact hx.li hr
    ·cases h with
     |mk er N hx L S R t O l yb=>
      cases ox.mp er.symm
      cases l with
      |nil l=>
      exact hQ (CE.of N hx L R t O (λz E Y=>l z E (iw Y fh)) hb yb)
    ·cases h with
     | @mk js y bi bj bs m Z gi o4 o5 er N hx L S R t O l yb=>
      refine bM (List.map_eq_cons_iff.mp er.symm) λj fo e1 e2 e3=>?_
      subst e1 e2 e3
      refine rwL N (kch aJg (kch col_nf ?_))
      have nn:=l.no
      cases l with
      |cons E hl e _ l=>
      by_cases q:j<c.w.bl
      ·refine rwL (bm q) (G.ct (.mk rfl rfl hx L (Nat.lt_of_succ_lt S) R ?_ ?_ l (dw (Int.add_one_le_of_lt q) hb)))
       ·rw[oh (Int.add_one_le_of_lt q)]
        rwa [oh (jd (Int.lt_of_le_of_lt E q))]at t
       ·rw[oh (Int.add_one_le_of_lt q)]
        rwa [oh (jd (Int.lt_of_le_of_lt E q))]at O
      ·rw[bp q]
       by_cases P:j>=c.w.bh
       ·exact rwL (bm P) (G.br (hQ (CE.of rfl hx L R t O (λz E Y=>nn z E (iw Y P)) hb yb)))
       ·rw[bp P]
        have q:=kz.mp q
        have P:=not_le.mp P
        have sf:=J.next o q P e.symm
        have hk:(f (j-1)).getD (.int 0)= .int ((U (j-1)).getD 0):=by rw[fe];cases U (j-1)<;>rfl
        refine (by
         intro c g A bi bj bs x o5 K H j k m n f Z F L S hk h
         refine kch (B:=Lf (H[g]?.bind MO.dct) λd=>Lp (aH ((d.2 (j-1)).getD (.int 0)) (.int 1) H) λv H1=>Lf (sL (.ref A) (.int j) v H1) λH3=>aGn (upd (fL c g bi bj bs (am (.int x)) (am (.dget g)) (am (.ref A)) (am (.int j)) o5) "k" v) H3 K) ⋯ (Lf.mk (xY F) (Lp.mk (by rw[hk];rfl) (Lf.mk (p:=H.set A (.dict (m+1) (dput Z j (.int (k+1))))) (rwL L (ca S):H[A]?.bind (setO H A j (.int (k+1)))=_) ?_)))
         ·delta fL
          rw[aD]
          exact h:∀{c:FC}{g:Nat}{A:Nat}{bi:Int}{bj:Int}{bs:Int}{x:Int}{o5:bc V}{K:SK}{H:MH}{j k:Int}{m n:Nat}{f Z:Int->bc V}(F:H[g]? =am (.dict n f))(L:H[A]? =am (.dict m Z))(S:m<1000000)(hk:(f (j-1)).getD (.int 0)= .int k)(h:aGn (fL c g bi bj bs (am (.int x)) (am (.dget g)) (am (.ref A)) (am (.int j)) (am (.int (k+1)))) (H.set A (.dict (m+1) (dput Z j (.int (k+1))))) K),colB3 (fL c g bi bj bs (am (.int x)) (am (.dget g)) (am (.ref A)) (am (.int j)) o5) H K) (hx _ _ F) L (hV (r5 _ _) S) hk (col4 (G.nx (.mk rfl rfl (hx.set ff) (by rw[fp (List.getElem?_eq_some_iff.mp L).1]) ?_ (gi:=λc=>if c=j then am ((U (j-1)).getD 0+1) else gi c) ?_ ?_ ?_ l (Int.add_one_le_of_lt P))))
        ·exact hV (Nat.le_of_eq (Nat.add_right_comm _ _ _)) S
        ·intro z
         delta dput
         by_cases qz:z=j
         ·rw[ca qz,ca qz];rfl
         ·rw[bz qz,bz qz];exact R z
        ·exact rwL (ry (dw q (Int.le_add_one (c4 j)))) ((t.skip (Int.max_le.mpr ⟨q,E⟩) λz E Y h3 h4=>nn z (dw (ud _ _) E) Y h4.symm).step q o e.symm sf)
        ·exact rwL (ry (dw q (Int.le_add_one (c4 j)))) ((O.skip (Int.max_le.mpr ⟨q,E⟩) λz E Y h3 h4 h5=>nn z (dw (ud _ _) E) Y h5.symm).step sf D P (Int.lt_add_one_of_le (Row.pos J _))):∀{c:FC}{g:Nat}{A:Nat}{x:Int}{Q:SK}{H:MH}{C:Cx}{a b:aq Int}{n:Nat}{f:Int->bc V}{U:Int->bc Int}{v:Int}{T:MH}{r:Nat}{js:aq Int}{lo:Lo}(F:T[g]? =am (.dict n f))(fe:∀ c,f c=(U c).map V.int)(J:Row a b c.w (x-1) c.w.bh U)(ff:T[A]? =ba)(o:c.w.al<=x)(D:x<c.w.ah)(hb:c.w.bl<=c.w.bh)(fh:c.w.bh<=b.length)(hv:v=av a x)(hr:LI T r js)(h:CI a b c g A x v T (js.map .int) lo H)(hQ:∀ {lo H},CE a b c g A x T lo H->Q .next lo H),dK (bB C) (aN "j") t8 ((js.map V.int).length+1) (r,0) lo H Q) F R t (aI H) o D w.b1 w.b2 rfl hr (start l) fj⟩
  rcases h.bj (av a x) with ⟨e,l⟩ |⟨r,js,e,hr,l⟩
  ·exact(rwL e (go (hx.li ht) l):Lf ((f (av a x)).getD (.ref c.nt)).rf _)
  ·exact(rwL e (go (hx.li hr) l):Lf ((f (av a x)).getD (.ref c.nt)).rf _):∀{C:Cx}{c:FC}{x:Int}{K:SK}{Q:SK}{H:MH}{a:aq Int}{b:aq Int}{n:Nat}{fs:Str->bc V}{f:Int->bc V}{M:MH}(h:SM M c.s c.ra c.rb c.rd c.rj n fs f a b)(ht:LI M c.nt [])(w:WOk a b c.w){lo:Lo}(D:x<c.w.ah)(I:RI a b c M x lo H)(G:GoK (RI a b c M (x+1)) Q K),aN "i" (.int x) lo H λlo1 H1=>rowB C lo1 H1 K) h ht w hx r G) _ _ ?_ (.mk rfl (.refl H) F (λ_=>rfl) (.zero (.inl (Int.sub_one_lt_of_le (c4 _)))) (.start w.a1 w.b1) (c4 _))⟩
 ·have:=w.a0;have:=w.a1;have:=w.a2;have:=h.al
  delta rOk
  rw[bm (by omega: -1000000<c.w.al),bm (by omega:c.w.al<1000000),bm (by omega: -1000000<c.w.ah),bm (by omega:c.w.ah<1000000)]
  rfl
 ·cases r with
  |mk N hx F R t O o=>
   exact rwL N (k hx O.done)
 ·exact(zzI1 0x525129a28a29044128003a68087 [c.w.al,c.w.ah] ⋯ w.a1:c.w.al+((c.w.ah-c.w.al).toNat:Int)=c.w.ah)
theorem ab_eq{i j:Int}{Q:ec->MH->Prop}(h:LI H ra a)(g:LI H rb b)(al:a.length<1000000)(n:b.length<1000000)(o:0<=i)(k:i<a.length)(l:0<=j)(e:j<b.length)(q:Q (decide (av a i=av b j)) H):Lp (aG (.ref ra) (.int i) H) λa f=>Lp (aG (.ref rb) (.int j) f) λb m=>Lp (aX id a b m) λv d=>Lf (tr v d) λc=>Q c d:=Lp.mk (iJ h o k al) (Lp.mk (iJ g l e n) (Lp.mk (v:=.bool (decide (av a i=av b j))) ⋯ (Lf.mk rfl q)))
theorem Best.left(h:Best a b w i j k)(p:w.al<i)(f:w.bl<j):av a (i-1)≠av b (j-1):=λe=>by
 have n:=h.n
 have o:=n.i1;have d:=n.j1;have c:=n.k0
 have g:=h.g (i-1) (j-1) (k+1) ⟨A169 p,A170 o,A169 f,A170 d,A171 c,λt l r=>?_⟩ (A172 c)
 ·rcases g with g |⟨g,_⟩<;>omega
 ·by_cases q:t=0
  ·rw[q,jq,jq];exact e
  ·exact rwL (show i-1+t=i+(t-1) from A175) (rwL (show j-1+t=j+(t-1) from A175) (n.m (t-1) (zzI2 0x2a81f68040f42a00f680c41e803d087 [t] ⋯ l q) (zzI1 0x16907d07da0100207da4007da00087 [t,k] ⋯ r)))
theorem Best.right(h:Best a b w i j k)(l:i+k<w.ah)(d:j+k<w.bh):av a (i+k)≠av b (j+k):=λe=>by
 have n:=h.n
 have p:=n.j0;have c:=n.k0
 have g:=h.g i j (k+1) ⟨A176 n.i0,A177 l,A176 p,A177 d,A171 c,λt f o=>?_⟩ (A172 c)
 ·rcases g with g |⟨g,_⟩<;>omega
 ·by_cases q:t=k
  ·exact rwL q e
  ·exact n.m t f (A132 o q)
theorem flm_8{o2 o3:bc V}(h:SM H c.s c.ra c.rb c.rd c.rj n fs f a b)(w:WOk a b c.w)(B:Best a b c.w bi bj bs)(k:K .next (fL c g bi bj bs o1 o2 o3 o4 o5) H):eE X (fL c g bi bj bs o1 o2 o3 o4 o5) H K:=by
 refine⟨1,kch (B:=(bif decide (bi>c.w.al) then bif decide (bj>c.w.bl) then Lp (aG (.ref c.rb) (.int (bj-1)) H) λv H1=>Lf ((one [v]).bind Ti) λk=>H1[c.rj]? =am .eset/\
  (Lp (aG (.ref c.ra) (.int (bi-1)) H1) λa q=>Lp (aG (.ref c.rb) (.int (bj-1)) q) λb r=>Lp (aX id a b r) λv l=>Lf (tr v l) λt=>bif t then
   aB (cN ["besti","bestj","bestsize"] (bH (esC (aA bL (eN "besti") (eK (.int 1))) (esC (aA bL (eN "bestj") (eK (.int 1))) (esC (aA aH (eN "bestsize") (eK (.int 1))) esN))))) (sK .next) (fL c g bi bj bs o1 o2 o3 o4 o5) l (vM (λu u u=>f7) K)
   else K .next (fL c g bi bj bs o1 o2 o3 o4 o5) l) else K .next (fL c g bi bj bs o1 o2 o3 o4 o5) H else K .next (fL c g bi bj bs o1 o2 o3 o4 o5) H)) ⋯ ?_⟩
 have m:=B.n.j1;have i:=B.n.k0;have a0:=w.a0;have p:=w.a2;have b0:=w.b0;have o:=w.b2
 by_cases e:c.w.al<bi
 ·rw[bm e,mi]
  by_cases d:c.w.bl<bj
  ·rw[bm d,mi]
   exact Lp.mk (iJ h.ib (A178 b0 d) (A179 m i o) h.bl) (Lf.mk rfl ⟨h.j,ab_eq h.ia h.ib h.al h.bl (A178 a0 e) (A179 B.n.i1 i p) (A178 b0 d) (A179 m i o) (rwL (bp (B.left e d)) k)⟩)
  ·rw[bp d];exact k
 ·rw[bp e];exact k
theorem flm_9{o2 o3:bc V}(h:SM H c.s c.ra c.rb c.rd c.rj n fs f a b)(w:WOk a b c.w)(B:Best a b c.w bi bj bs)(k:K .next (fL c g bi bj bs o1 o2 o3 o4 o5) H):eD X (fL c g bi bj bs o1 o2 o3 o4 o5) H K:=by
 refine⟨1,kch (B:=(bif decide (bi+bs<c.w.ah) then bif decide (bj+bs<c.w.bh) then Lp (aG (.ref c.rb) (.int (bj+bs)) H) λv H1=>Lf ((one [v]).bind Ti) λk=>H1[c.rj]? =am .eset/\
  (Lp (aG (.ref c.ra) (.int (bi+bs)) H1) λa q=>Lp (aG (.ref c.rb) (.int (bj+bs)) q) λb r=>Lp (aX id a b r) λv l=>Lf (tr v l) λt=>bif t then
   aB (sH "bestsize" nR (eK (.int 1))) (sK .next) (fL c g bi bj bs o1 o2 o3 o4 o5) l (vM (λu u u=>f7) K)
   else K .next (fL c g bi bj bs o1 o2 o3 o4 o5) l) else K .next (fL c g bi bj bs o1 o2 o3 o4 o5) H else K .next (fL c g bi bj bs o1 o2 o3 o4 o5) H)) ⋯ ?_⟩
 have m:=B.n.j0;have i:=B.n.k0;have a0:=w.a0;have p:=w.a2;have b0:=w.b0;have o:=w.b2
 by_cases e:bi+bs<c.w.ah
 ·rw[bm e,mi]
  by_cases d:bj+bs<c.w.bh
  ·rw[bm d,mi]
   exact Lp.mk (iJ h.ib (A180 m i b0) (A181 o d) h.bl) (Lf.mk rfl ⟨h.j,ab_eq h.ia h.ib h.al h.bl (A180 B.n.i0 i a0) (A181 p e) (A180 m i b0) (A181 o d) (rwL (bp (B.right e d)) k)⟩)
  ·rw[bp d];exact k
 ·rw[bp e];exact k
theorem flm_10{o2 o3:bc V}(h:SM H c.s c.ra c.rb c.rd c.rj n fs f a b)(w:WOk a b c.w)(B:Best a b c.w bi bj bs)(k:K .next (fL c g bi bj bs o1 o2 o3 o4 o5) H):d4 X (fL c g bi bj bs o1 o2 o3 o4 o5) H K:=by
 refine⟨1,kch (B:=(bif decide (bi>c.w.al) then bif decide (bj>c.w.bl) then Lp (aG (.ref c.rb) (.int (bj-1)) H) λv H1=>Lf ((one [v]).bind Ti) λk=>H1[c.rj]? =am .eset/\
  (K .next (fL c g bi bj bs o1 o2 o3 o4 o5) H1) else K .next (fL c g bi bj bs o1 o2 o3 o4 o5) H else K .next (fL c g bi bj bs o1 o2 o3 o4 o5) H)) ⋯ ?_⟩
 have i:=B.n.j1;have l:=B.n.k0;have b0:=w.b0;have m:=w.b2
 by_cases e:bi>c.w.al
 ·rw[bm e,mi]
  by_cases d:bj>c.w.bl
  ·rw[bm d,mi]
   exact Lp.mk (iJ h.ib (A178 b0 d) (A179 i l m) h.bl) (Lf.mk rfl ⟨h.j,k⟩)
  ·rw[bp d];exact k
 ·rw[bp e];exact k
theorem flm_11{o2 o3:bc V}(h:SM H c.s c.ra c.rb c.rd c.rj n fs f a b)(w:WOk a b c.w)(B:Best a b c.w bi bj bs)(k:K .next (fL c g bi bj bs o1 o2 o3 o4 o5) H):dZ X (fL c g bi bj bs o1 o2 o3 o4 o5) H K:=by
 refine⟨1,kch (B:=(bif decide (bi+bs<c.w.ah) then bif decide (bj+bs<c.w.bh) then Lp (aG (.ref c.rb) (.int (bj+bs)) H) λv H1=>Lf ((one [v]).bind Ti) λk=>H1[c.rj]? =am .eset/\
  (K .next (fL c g bi bj bs o1 o2 o3 o4 o5) H1) else K .next (fL c g bi bj bs o1 o2 o3 o4 o5) H else K .next (fL c g bi bj bs o1 o2 o3 o4 o5) H)) ⋯ ?_⟩
 have m:=B.n.j0;have i:=B.n.k0;have b0:=w.b0;have l:=w.b2
 by_cases e:bi+bs<c.w.ah
 ·rw[bm e,mi]
  by_cases d:bj+bs<c.w.bh
  ·rw[bm d,mi]
   exact Lp.mk (iJ h.ib (A180 m i b0) (A181 l d) h.bl) (Lf.mk rfl ⟨h.j,k⟩)
  ·rw[bp d];exact k
 ·rw[bp e];exact k
theorem flm_ok{rd:Nat}(h:SM H s ra rb rd m n fs f a b)(w:WOk a b ⟨al,l,c,d⟩)(k:∀ {i j k H'},Hx H H'->Best a b ⟨al,l,c,d⟩ i j k->Q (.mat i j k) H'):bV X [.ref s,.int al,.int l,.int c,.int d] H Q:=by
 refine⟨rfl,?_⟩
 show c8 X (loB ["self","alo","ahi","blo","bhi"] [.ref s,.int al,.int l,.int c,.int d] lo0) H (kK Q)
 rw[(by
  intro s al l c d
  rw[<-fW fN ⋯]
  show upd (upd (upd (upd (upd (look fN) "self" s) "alo" (.int al)) "ahi" (.int l)) "blo" (.int c)) "bhi" (.int d)=_
  rw[aD,aD,aD,aD,aD]
  kernel_rfl:∀(s al l c d),loB ["self","alo","ahi","blo","bhi"] [s,.int al,.int l,.int c,.int d] lo0=look (fE (am s) ba ba ba ba ba ba al l c d ba ba ba ba ba ba ba ba))]
 refine flm_1 X h ((by
  intro C K H X R s ra rb rd m al l c d h
  refine kch (B:=(3<100/\3=3/\R (upd (upd (upd (upd (upd (look (fE (am (.ref s)) (am (.ref ra)) (am (.ref rb)) (am (.ref rd)) (am (.scon m)) ba ba al l c d ba ba ba ba ba ba ba ba)) "bestsize" (.int 0)) "bestj" (.int c)) "besti" (.int al)) "j2len" (.ref H.length)) "nothing" (.ref (H++[MO.dict 0 λy=>Option.none]).length)) ((H++[.dict 0 λy=>Option.none])++[.list []]) K)) ⋯ ⟨by decide,rfl,?_⟩
  rw[aD,aD,aD,aD,aD,show (H++[MO.dict 0 λy=>Option.none]).length=H.length+1 from by simp]
  exact h:∀{C:Cx}{K:SK}{H:MH}(X:XX C)(R:SF){s ra rb rd m:Nat}{al l c d:Int}(h:R (fL ⟨s,ra,rb,rd,m,H.length+1,⟨al,l,c,d⟩⟩ H.length al c 0 ba ba ba ba ba) ((H++[.dict 0 λy=>Option.none])++[.list []]) K),aB (eM X) (aB (eL X) (aB (eJ X) (aB (eI X) (aB (eG X) R)))) (look (fE (am (.ref s)) (am (.ref ra)) (am (.ref rb)) (am (.ref rd)) (am (.scon m)) ba ba al l c d ba ba ba ba ba ba ba ba)) H K) X _ ?_)
 have e:=(Hx.app H [.dict 0 λy=>Option.none]).trans (Hx.app _ [.list []])
 refine flm_7 X (h.hx e) ?_ ?_ w λ{g t u q r o2 o3 v x H'} p B=>?_
 ·have:=vL (H++[.dict 0 λy=>Option.none]) []
  rw[bq]at this
  exact this
 ·exact Hx.app _ _ _ _ (aT H _)
 have o:=(h.hx e).hx p
 exact flm_8 X o w B (flm_9 X o w B (flm_10 X o w B (flm_11 X o w B (kch ⋯ (k (e.trans p) B)))))
theorem b8{Q:Prop}(h:Q):bif false then P else Q:=h
theorem b7{Q:Prop}(h:P):bif be then P else Q:=h
theorem aE2{s:Nat}(h:H[s]? =am (.inst fs)):H[s]?.bind MO.ins=am fs:=by rw[h];rfl
theorem aP(h:H[i]? =am m)(m':MO):(H.set i m')[i]? =am m':=by
 rw[fp (List.getElem?_eq_some_iff.mp h).1]
theorem aM(h:H[j]? =am m)(n:i≠j):(H.set i m')[j]? =am m:=by
 exact rwL (iy n) h
def St(s:Nat)(x:Str)(v:V)(H:MH)(k:MH->Prop):Prop:=Lf (H[s]?.bind MO.ins) λfs=>k (H.set s (.inst (fput fs x v)))
def At(s:Nat)(x:Str)(H:MH)(k:V->Prop):Prop:=Lf (H[s]?.bind MO.ins) λfs=>Lf (fs x) k
theorem St.mk(h:H[s]? =am (.inst fs))(q:k (H.set s (.inst (fput fs x v)))):St s x v H k:=Lf.mk (aE2 h) q
theorem At.mk(h:H[s]? =am (.inst fs))(e:fs x=am v)(q:k v):At s x H k:=Lf.mk (aE2 h) (Lf.mk e q)
def fs1(fs:Str->bc V)(r:Nat):Str->bc V:=fput (fput (fput fs "a" (.ref r)) "matching_blocks" .none) "opcodes" .none
theorem uW(h:H[s]? =am (.inst fs))(a:fs "a" =am .none)(k:Q .none (H.set s (.inst (fs1 fs ra)))):iW X [.ref s,.ref ra] H Q:=by
 refine kch (B:=(2=2/\At s "a" H λv=>Lp (oIs id (.ref ra) v H) λv H1=>Lf (tr v H1) λb=>bif b then Q .none H1 else St s "a" (.ref ra) H1 λH2=>St s "matching_blocks" .none H2 λH3=>St s "opcodes" .none H3 λH4=>Q .none H4)) ⋯
  ⟨rfl,At.mk h a (Lp.mk rfl (Lf.mk rfl (b8 (St.mk h (St.mk (aP h _) (St.mk (aP (aP h _) _) ?_))))))⟩
 rw[sO,sO];exact k
def fs2(fs:Str->bc V)(r:Nat):Str->bc V:=fput (fput (fput (fput fs "b" (.ref r)) "matching_blocks" .none) "opcodes" .none) "fullbcount" .none
def js(b:aq Int)(v:Int):Nat->aq Int
 |0=>[]
 |p+1=>js b v p++if av b p=v then [(p:Int)] else []
theorem js_c(b:aq Int)(v:Int)(p:Nat):js b v (p+1)=js b v p++if av b p=v then [(p:Int)] else []:=rfl
theorem Idx.low{js:aq Int}{lo:Int}(h:Idx b v (lo+1) js)(e:av b lo≠v):Idx b v lo js:=by
 have g:∀ c:Int,lo<=c->(lo+1<=c->av b c≠v)->av b c≠v:=λc d f=>by
  rcases Int.lt_or_eq_of_le d with q |q
  ·exact f q
  ·exact q▸e
 cases h with
 |nil n=>exact .nil λc d f=>g c d λq=>n c q f
 |cons d f i n r=>exact .cons (dw (Int.le_add_one (c4 _)) d) f i (λc a b=>g c a λq=>n c q b) r
theorem aEx:∀ {p:Nat}{a:aq Int},p<=b.length->Idx b v p a->Idx b v 0 (js b v p++a):=λ{n}=>by
 induction n with
 |zero=>
  intro _ _ h
  exact h
 |succ p e=>
  intro a c h
  rw[js_c,dt]
  refine e (Nat.le_of_succ_le c) ?_
  by_cases q:av b p=v
  ·exact rwL (ca q) (.cons (c4 _) (Int.ofNat_lt.mpr c) q (λc d f=>bv f (kz.mpr d)) h)
  ·rw[bz q]
   exact Idx.low h q
structure Bk(B:MH)(s rd:Nat)(b:aq Int)(p:Nat)(f:Int->bc V)(H:MH):Prop where
 g:∀ v,(f v=ba/\js b v p= [])\/∃ r,f v=am (.ref r)/\H[r]? =am (.list ((js b v p).map V.int))/\B[r]? =ba/\r≠s/\r≠rd
 i:∀ v v' r,f v=am (.ref r)->f v'=am (.ref r)->v=v'
theorem Hx.fresh(h:Hx B H):B[H.length]? =ba:=by
 cases e:B[H.length]? with
 |none=>rfl
 |some m=>exact bv (h _ _ e) (by rw[aI];nofun)
theorem cV(h:H[i]? =am m):H.length≠i:=λq=>by rw[<-q,aI]at h;cases h
def fB(s rb rd i elt ind:bc V):Nv:=[("self",s),("b",rb),("b2j",rd),("i",i),("elt",elt),("indices",ind)]
inductive CBI(B:MH)(s rb rd:Nat)(fs:Str->bc V)(b:aq Int)(p:Nat)(lo:Lo)(H:MH):Prop
 |mk {n:Nat}{f:Int->bc V}{o1 o2 o3:bc V} (el:lo=look (fB (am (.ref s)) (am (.ref rb)) (am (.ref rd)) o1 o2 o3)) (hx:Hx B H) (ho:H[s]? =am (.inst fs)) (hd:H[rd]? =am (.dict n f)) (hn:n<=p) (bk:Bk B s rd b p f H):CBI B s rb rd fs b p lo H
theorem y8{P:bc (V×(Nat×Nat))->MH->Prop}{p:Nat}(a:lst H (.ref r)=am vs)(e:vs[p]? =o)(h:P (o.map λv=>(.tup [.int p,v],(r,p+1))) H):(lN C).nx (r,p) H P:=Lf.mk a (by exact rwL e h)
theorem qF(a:Nat->Lo->MH->Prop)(c:∀ {p lo H},a p lo H->lst H (.ref r)=am vs)(e:∀ {lo H},a vs.length lo H->Q .next lo H)(hs:∀ {p v lo H K},vs[p]? =am v->a p lo H->GoK (a (p+1)) Q K->tgt (.tup [.int p,v]) lo H λlo1 H1=>body lo1 H1 K):∀ (k p:Nat){lo:Lo}{H:MH},p+k=vs.length->a p lo H->dK (lN C) tgt body (k+1) (r,p) lo H Q:=λn=>by
 induction n with
 |zero=>
  refine λp lo H b h=>(y8 (c h) (gV (Nat.le_of_eq b.symm)) ?_)
  subst b
  exact e h
 |succ k d=>
  exact λp lo H b h=>(y8 (c h) (getElem?_eq_getElem (A106 b)) (hs (getElem?_eq_getElem (A106 b)) h (.loop λh'=>d (p+1) (A109 b) h')))
def chT:AF:=cM 2 (asC (aN "i") (asC (aN "elt") asN))
theorem Bk.old{rd:Nat}(h:Bk B s rd b p f H)(k:Hx H G)(e:f (av b p)=am (.ref r))(hs:H[s]? =am (.inst fs)):Bk B s rd b (p+1) f (G.set r (.list ((js b (av b p) p++[(p:Int)]).map V.int))):=by
 refine⟨λv=>?_,h.i⟩
 rw[js_c]
 by_cases q:av b p=v
 ·refine rwR q (rwL (ca rfl) ?_)
  rcases h.g (av b p) with ⟨a,_⟩ |⟨j,a,c,d⟩
  ·exact cyM (rwR e a)
  ·cases (e▸a)
   exact .inr ⟨r,e,aP (k _ _ c) _,d⟩
 ·rw[bz q,gz]
  rcases h.g v with c |⟨j,a,c,d⟩
  ·exact .inl c
  ·exact .inr ⟨j,a,aM (k _ _ c) λz=>q (h.i _ _ r (e) (z▸a)),d⟩
theorem Bk.new{rd:Nat}(h:Bk B s rd b p f H)(u:Hx B H)(e:f (av b p)=ba)(hs:H[s]? =am (.inst fs))(t:H[rd]? =am (.dict n f))(m:MO):Bk B s rd b (p+1) (dput f (av b p) (.ref H.length)) (((H++[MO.list []]).set rd m).set H.length (.list [.int p])):=by
 refine⟨λv=>?_,λv o r a d=>?_⟩
 ·rw[js_c]
  delta dput
  by_cases q:v=av b p
  ·refine rwL q (rwL (ca rfl) (rwL (ca rfl) (.inr ⟨_,rfl,?_,u.fresh,(cV hs),(cV t)⟩)))
   rcases h.g (av b p) with ⟨_,c⟩ |⟨l,c,_⟩
   ·exact rwL c (aP (aM (aT _ _) (cV t).symm) _)
   ·cases (e▸c)
  ·rw[bz q,bz (λz=>q z.symm),gz]
   rcases h.g v with a |⟨l,c,a,d⟩
   ·exact .inl a
   ·exact .inr ⟨l,c,aM (aM (Hx.app _ _ _ _ a) d.2.2.symm) (cV a),d⟩
 ·unfold dput at a d
  have j:∀ v,f v≠am (.ref H.length):=λv z=>by
   rcases h.g v with ⟨c,_⟩ |⟨l,c,a,_⟩
   ·exact cyM (rwR z c)
   ·rw[z]at c;cases c;exact cV a rfl
  by_cases q:v=av b p
  ·by_cases k:o=av b p
   ·exact q.trans k.symm
   ·rw[ca q]at a;rw[bz k]at d;cases a;exact bv d (j _)
  ·by_cases k:o=av b p
   ·rw[bz q]at a;rw[ca k]at d;cases d;exact bv a (j _)
   ·rw[bz q]at a;rw[bz k]at d;exact h.i _ _ _ a d
theorem d9{r:Nat}(h:H[r]? =am (.list vs)):H[r]?.bind MO.own=am vs:=by rw[h];rfl
theorem aL(h:H[r]? =am (.list vs)):lst H (.ref r)=am vs:=by
 show H[r]?.bind _=_
 rw[h];rfl
theorem aDe(c:lo x=am (.ref r))(b:lo y=am v)(h:H[r]? =am (.list vs))(a:vs.length<1000000)(k:K .next lo (H.set r (.list (vs++[v])))):bE (c9 (eN x) (eN y)) lo H K:=Lf.mk c (Lf.mk rfl ⟨⟨_,h⟩,Lf.mk b (Lf.mk (d9 h) ⟨a,k⟩)⟩)
theorem aEw(b:aq Int)(v:Int):∀ p,(js b v p).length<=p
 |0=>Nat.le_refl _
 |p+1=>by
  rw[js_c,bq]
  refine Nat.add_le_add (aEw b v p) ?_
  split
  ·exact Nat.le_refl 1
  ·exact jw 1
def chR(w:V)(lo:Lo)(K:SK)(H:MH):Prop:=aB (bE (c9 (eN "indices") (eN "i"))) (sK .next) (upd lo "indices" w) H K
theorem chR_i(a:upd lo "indices" (.ref r) "i" =am v)(h:H[r]? =am (.list vs))(b:vs.length<1000000)(k:K .next (upd lo "indices" (.ref r)) (H.set r (.list (vs++[v])))):chR (.ref r) lo K H:=aDe (x:="indices") ⋯ a h b k
theorem ch_nf{rd p:Nat}{o2 o3:bc V}:(chT (.tup [.int p,.int v]) (look (fB (am (.ref s)) (am (.ref rb)) (am (.ref rd)) o1 o2 o3)) H λlo1 H1=>chB lo1 H1 K)= (2=2/\(∃ n g,H[rd]? =am (.dict n g))/\Lf ((H++[MO.list []])[rd]?.bind MO.dct) λq=>q.1<1000000/\match q.2 v with
   |some a=>chR a (upd (upd (look (fB (am (.ref s)) (am (.ref rb)) (am (.ref rd)) o1 o2 o3)) "i" (.int p)) "elt" (.int v)) K (H++[MO.list []])
   |none=>chR (.ref H.length) (upd (upd (look (fB (am (.ref s)) (am (.ref rb)) (am (.ref rd)) o1 o2 o3)) "i" (.int p)) "elt" (.int v)) K ((H++[MO.list []]).set rd (.dict (q.1+1) (dput q.2 v (.ref H.length))))):=by kernel_rfl
theorem upd3{rd:Nat}{o2 o3:bc V}(u v w:V):upd (upd (upd (look (fB (am (.ref s)) (am (.ref rb)) (am (.ref rd)) o1 o2 o3)) "i" u) "elt" v) "indices" w=look (fB (am (.ref s)) (am (.ref rb)) (am (.ref rd)) (am u) (am v) (am w)):=by
 rw[aD,aD,aD];kernel_rfl
theorem aJh{rd:Nat}(k:p<1000000)(hs:B[s]? =ba)(o:B[rd]? =ba)(m:s≠rd)(I:CBI B s rb rd fs b p lo H)(G:GoK (CBI B s rb rd fs b (p+1)) Q K):chT (.tup [.int p,.int (av b p)]) lo H λlo1 H1=>chB lo1 H1 K:=by
 cases I with
 | @mk n f x o2 o3 t h d c j i=>
 subst t
 have a:Hx H (H++[MO.list []]):=.app _ _
 refine kch ch_nf ⟨rfl,⟨_,_,c⟩,Lf.mk (xY (a _ _ c)) ⟨hV j k,?_⟩⟩
 dsimp only
 rcases i.g (av b p) with ⟨e,y⟩ |⟨r,e,l,u,w,q⟩
 ·refine rwL e (chR_i ⋯ (aM (aT _ _) (cV c).symm) (by decide) (G.nx (.mk (upd3 _ _ _) (((h.trans a).set o).set h.fresh) ?_ ?_ (rz j) (i.new h e d c _))))
  ·exact aM (aM (a _ _ d) m.symm) (cV d)
  ·exact aM (aP (a _ _ c) _) (cV c)
 ·refine rwL e (chR_i (v:=.int p) ⋯ (a _ _ l) (by rw[bg];exact hV (aEw b (av b p) p) k) (rwL (show (js b (av b p) p).map V.int++[V.int p]=(js b (av b p) p++[(p:Int)]).map V.int from by rw[bI];rfl) (G.nx (.mk (upd3 _ _ _) ((h.trans a).set u) ?_ ?_ (pi j) (i.old a e d)))))
  ·exact aM (a _ _ d) w
  ·exact aM (a _ _ c) q
theorem fB_0{rd:Nat}:upd (upd (upd lo0 "self" (.ref s)) "b" (.ref rb)) "b2j" (.ref rd)=look (fB (am (.ref s)) (am (.ref rb)) (am (.ref rd)) ba ba ba):=by
 rw[<-fW (fB ba ba ba ba ba ba) ⋯,aD,aD,aD]
 kernel_rfl
def fs3(fs:Str->bc V)(rd rj rp:Nat):Str->bc V:=fput (fput (fput fs "b2j" (.ref rd)) "bjunk" (.ref rj)) "bpopular" (.ref rp)
theorem Bk.idx{rd:Nat}(h:Bk B s rd b b.length f H)(k:∀ (r:Nat) (m:MO),H[r]? =am m->r≠s->H'[r]? =am m):B2J H' b f:=λv=>by
 have e:Idx b v 0 (js b v b.length):=by
  have:=aEx (v:=v) (Nat.le_refl b.length) (.nil λc a c=>bv c (kz.mpr a))
  rwa [gz]at this
 rcases h.g v with ⟨a,c⟩ |⟨r,a,c,j,d,i⟩
 ·exact .inl ⟨a,c▸e⟩
 ·exact .inr ⟨r,_,a,aL (k _ _ c d),e⟩
theorem Bk.nw{rd:Nat}(h:Bk B s rd b p f H)(v:Int)(r:Nat)(e:f v=am (.ref r)):B[r]? =ba:=by
 rcases h.g v with ⟨a,d⟩ |⟨k,a,d,c,j,i⟩
 ·exact aE (a.symm.trans e)
 ·cases a.symm.trans e;exact c
theorem aGp{rd:Nat}{o2 o3:bc V}(hs:B[s]? =ba)(u:Hx B H)(h:H[s]? =am (.inst fs))(w:H[rd]? =am (.dict n f))(x:s≠rd)(y:LI B rb b)(q:b.length<1000000)(p:t=be->b.length<200)(A:fs "isjunk" =am .none)(z:fs "autojunk" =am (.bool t))(j:Bk B s rd b b.length f H)(k:∀ {H' o rp},Hx B H'->H'[s]? =am (MO.inst (fput (fput fs "bjunk" (.ref o)) "bpopular" (.ref rp)))->H'[rd]? =am (.dict n f)->H'[o]? =am .eset->B2J H' b f->(∀ v r,f v=am (.ref r)->B[r]? =ba)->Q .none H'):aAt X (look (fB (am (.ref s)) (am (.ref rb)) (am (.ref rd)) o1 o2 o3)) H (kK Q):=by
 refine kch (B:=(St s "bjunk" (.ref H.length) (H++[MO.eset]) λH3=>At s "isjunk" H3 λv=>Lf (tr v H3) λb=>bif b then f7 else St s "bpopular" (.ref H3.length) (H3++[MO.eset]) λH4=>
  Lp ((lst H4 (.ref rb)).bind λxs=>if xs.length<1000000 then am (.int xs.length,H4) else ba) λn d=>At s "autojunk" d λv=>Lf (tr v d) λb=>bif b then(Lp (oGe n (.int 200) d) λv i=>Lf (tr v i) λb=>bif b then f7 else Q .none i) else Q .none d)) ⋯ ?_
 have g:=Hx.app H [MO.eset] _ _ h
 have s1:=aP g (MO.inst (fput fs "bjunk" (.ref H.length)))
 refine St.mk g (At.mk s1 A (Lf.mk rfl (b8 (St.mk (Hx.app _ [MO.eset] _ _ s1) ?_))))
 have s2:=aP (Hx.app _ [MO.eset] _ _ s1) (MO.inst (fput (fput fs "bjunk" (.ref H.length)) "bpopular" (.ref ((H++[MO.eset]).set s (MO.inst (fput fs "bjunk" (.ref H.length)))).length)))
 have l:=((((u.trans (.app H [MO.eset])).set (m:=.inst (fput fs "bjunk" (.ref H.length))) hs).trans (.app _ [MO.eset])).set (m:=.inst (fput (fput fs "bjunk" (.ref H.length)) "bpopular" (.ref ((H++[MO.eset]).set s (MO.inst (fput fs "bjunk" (.ref H.length)))).length))) hs)
 have a:∀ (r:Nat) (m:MO),(H++[MO.eset])[r]? =am m->r≠s->((((H++[MO.eset]).set s (MO.inst (fput fs "bjunk" (.ref H.length))))++[MO.eset]).set s (MO.inst (fput (fput fs "bjunk" (.ref H.length)) "bpopular" (.ref ((H++[MO.eset]).set s (MO.inst (fput fs "bjunk" (.ref H.length)))).length))))[r]? =am m:=λr m e n=>
  aM (Hx.app _ _ _ _ (aM e n.symm)) n.symm
 have c:=k l s2 (a _ _ (Hx.app _ _ _ _ w) x.symm) (a _ _ (aT _ _) (cV h)) (j.idx λr m e n=>a _ _ (Hx.app _ _ _ _ e) n) j.nw
 refine Lp.mk (by rw[(l.li y)];show(if (b.map V.int).length<1000000 then _ else _)=_;rw[bg,ca q]) (At.mk s2 z (Lf.mk rfl ?_))
 cases t with
 |false=>exact c
 |true=>
  refine b7 (Lp.mk (v:=.bool (decide ((b.length:Int)>=200))) ⋯ (Lf.mk ?_ (b8 c)))
  rw[bp (zzM1 0x5a28a041a8f42106a3d07da00007 [b.length] ⋯ (p rfl))];rfl
theorem yE(h:H[s]? =am (.inst fs))(a:Hx B H)(hs:B[s]? =ba)(j:LI B rb b)(l:b.length<1000000)(z:t=be->b.length<200)(E:fs "b" =am (.ref rb))(J:fs "isjunk" =am .none)(F:fs "autojunk" =am (.bool t))(k:∀ {H' rd q rp n f},Hx B H'->H'[s]? =am (MO.inst (fs3 fs rd q rp))->H'[rd]? =am (.dict n f)->H'[q]? =am .eset->B2J H' b f->(∀ v r,f v=am (.ref r)->B[r]? =ba)->Q .none H'):fX X [.ref s] H Q:=by
 refine kch (B:=(1=1/\At s "b" H λv=>St s "b2j" (.ref H.length) (H++[.dict 0 λN=>ba]) λH2=>Lf v.rf λi=>(∃ vs,lst H2 (.ref i)=am vs)/\
  ∃ n,dK (lN C) chT chB n (i,0) (upd (upd (upd lo0 "self" (.ref s)) "b" v) "b2j" (.ref H.length)) H2 (bW (aAt X) (kK Q)))) ⋯ ?_
 have d:=Hx.app H [.dict 0 λN=>ba]
 refine⟨rfl,At.mk h E (St.mk (d _ _ h) (Lf.mk rfl ?_))⟩
 have y:=(a.trans d).set (m:=.inst (fput fs "b2j" (.ref H.length))) hs
 have g:=(cV h).symm
 refine⟨⟨_,y.li j⟩,(b.map V.int).length+1,rwL fB_0 (qF (CBI B s rb H.length (fput fs "b2j" (.ref H.length)) b) (λI=>?_) (λI=>?_) (λ{p v lo H K} e I G=>?_) _ 0 (Nat.zero_add _) (.mk rfl y (aP (d _ _ h) (MO.inst (fput fs "b2j" (.ref H.length)))) (aM (aT _ _) g) (Nat.le_refl _) ⟨λv=>.inl ⟨rfl,rfl⟩,λv L r c w=>nomatch c⟩))⟩
 ·cases I with
  |mk u a=>exact a.li j
 ·cases I with
  |mk u a A D M o=>
   subst u
   rw[bg]at o
   exact aGp X hs a A D g j l z J F o k
 ·refine xEA (dy.mp (rwR gh e)) λx c w=>?_
  refine rwR w ?_
  have:av b p=x:=by
   show b.getD p 0=x
   rw[ce,c];rfl
  exact rwR this (aJh (iq (List.getElem?_eq_some_iff.mp c).1 l) hs a.fresh g I G)
structure Bx(a b:aq Int)(t:T3):Prop where
 p:0<t.k
 n:In a b ⟨0,a.length,0,b.length⟩ t.i t.j t.k
def T3.w(t:T3):Wd:=⟨t.i,t.i+t.k,t.j,t.j+t.k⟩
def Sep(x y:Wd):Prop:=(x.ah<=y.al/\x.bh<=y.bl)\/(y.ah<=x.al/\y.bh<=x.bl)
structure Sb(x y:Wd):Prop where
 a0:y.al<=x.al
 a1:x.ah<=y.ah
 b0:y.bl<=x.bl
 b1:x.bh<=y.bh
theorem Sep.symm(h:Sep x y):Sep y x:=Or.symm h
theorem Sep.sub(h:Sep y z)(s:Sb x y):Sep x z:=h.imp (λh=>⟨dw s.a1 h.1,dw s.b1 h.2⟩) λh=>⟨dw h.1 s.a0,dw h.2 s.b0⟩
theorem kS(i:Int)(h:0<=k):i<=i+k:=Int.le_add_of_nonneg_right h
theorem sb1(B:In a b w i j k):Sb ⟨w.al,i,w.bl,j⟩ w:=⟨c4 _,dw (kS i B.k0) B.i1,c4 _,dw (kS j B.k0) B.j1⟩
theorem sb2(B:In a b w i j k):Sb ⟨i+k,w.ah,j+k,w.bh⟩ w:=⟨dw B.i0 (kS i B.k0),c4 _,dw B.j0 (kS j B.k0),c4 _⟩
theorem sb3(B:In a b w i j k):Sb (T3.w ⟨i,j,k⟩) w:=⟨B.i0,B.i1,B.j0,B.j1⟩
theorem mem2(h:v∈kH w i j k q):v=⟨i+k,w.ah,j+k,w.bh⟩\/v∈q:=by
 unfold kH at h
 split at h
 ·exact e6.mp h
 ·exact .inr h
theorem pw2(h:q.Pairwise Sep)(c:∀ v∈q,Sep ⟨i+k,w.ah,j+k,w.bh⟩ v):(kH w i j k q).Pairwise Sep:=by
 delta kH
 split
 ·exact et.mpr ⟨c,h⟩
 ·exact h
def SepT(x y:T3):Prop:=Sep x.w y.w
theorem Run.ok(h:Run a b q m r)(s:∀ w∈q,WOk a b w)(l:∀ t∈m,Bx a b t)(d:q.Pairwise Sep)(o:m.Pairwise SepT)(cr:∀ w∈q,∀ t∈m,Sep w t.w):(∀ t∈r,Bx a b t)/\r.Pairwise SepT:=by
 induction h with
 |nil=>exact⟨l,o⟩
 |zero B h u=>
  exact u (λv c=>s v (.tail _ c)) l (et.mp d).2 o λv c=>cr v (.tail _ c)
 | @pos w q m r i j k B p h u=>
  have W:=s w (.head _)
  have n:=B.n
  refine xA (et.mp d) λpw d=>?_
  have cl:∀ v∈jE w i j q,v=⟨w.al,i,w.bl,j⟩\/v∈q:=λv c=>(by
   unfold jE at c
   split at c
   ·exact e6.mp c
   ·exact .inr c)
  have f:∀ v∈kH w i j k (jE w i j q),Sep v (T3.w ⟨i,j,k⟩):=λv c=>by
   refine Or.elim (mem2 c) (λe=>(e▸ .inr ⟨c4 _,c4 _⟩)) λe=>?_
   ·refine Or.elim (cl v e) (λe=>(e▸ .inl ⟨c4 _,c4 _⟩)) λe=>?_
    ·exact((pw v e).sub (sb3 n)).symm
  refine u (yX W B λv c=>s v (.tail _ c)) (λt g=>?_) (pw2 ((by
   delta jE
   split
   ·exact et.mpr ⟨(λv c=>(pw v c).sub (sb1 n)),d⟩
   ·exact d)) λv c=>?_) (List.pairwise_append.mpr ⟨o,List.pairwise_singleton _ _,λx C y A=>?_⟩) λv c t g=>?_
  ·refine Or.elim (e7.mp g) (λe=>(l t e)) λe=>?_
   ·cases dv.mp e
    exact⟨p,dw W.a0 n.i0,dw n.i1 W.a2,dw W.b0 n.j0,dw n.j1 W.b2,n.k0,n.m⟩
  ·refine Or.elim (cl v c) (λe=>(e▸ .inr ⟨kS i n.k0,kS j n.k0⟩)) λe=>?_
   ·exact(pw v e).sub (sb2 n)
  ·cases dv.mp A
   exact((cr w (.head _) x C).sub (sb3 n)).symm
  ·refine Or.elim (e7.mp g) (λe=>?_) λe=>?_
   ·refine Or.elim (mem2 c) (λz=>(z▸(cr w (.head _) t e).sub (sb2 n))) λz=>?_
    ·refine Or.elim (cl v z) (λz=>(z▸(cr w (.head _) t e).sub (sb1 n))) λz=>?_
     ·exact cr v (.tail _ z) t e
   ·cases dv.mp e
    exact f v c
class inductive CH(a b:aq Int):Int->Int->aq T3->Prop
 |nil {i j:Int}:CH a b i j []
 |cons {i j:Int}{t:T3}{l:aq T3} (hi:i<=t.i) (hj:j<=t.j) (B:Bx a b t) (h:CH a b (t.i+t.k) (t.j+t.k) l):CH a b i j (t::l)
theorem CH.of:∀ {l:aq T3}{i j:Int},(∀ t∈l,Bx a b t)->l.Pairwise SepT->l.Pairwise (λx y=>x.i<y.i)->(∀ t∈l,i<=t.i/\j<=t.j)->CH a b i j l:=λ{n}=>by
 induction n with
 |nil=>
  intro _ _ _ _ _ _
  exact .nil
 |cons t l h=>
  intro i j d hs f e
  refine xA (et.mp hs) λs1 s2=>xA (et.mp f) λl1 g=>.cons (e t (.head _)).1 (e t (.head _)).2 (d t (.head _)) (h (λx c=>d x (.tail _ c)) s2 g λx c=>(Or.elim (s1 x c) (λs=>s) λs=>?_))
  ·exact bv (iw (l1 x c) (dw (jd (Int.lt_add_of_pos_right x.i ((d x (.tail _ c)).p))) s.1)) (kZ _)
theorem CH.len(h:CH a b i j l)(d:i<=a.length):i+l.length<=a.length:=by
 induction h with
 |nil=>simpa using d
 | @cons i j t l c f B h e=>
  exact rwL ea (A201 c (e B.n.i1) B.p)
theorem sP:∀ (l:aq T3) (c:T3),(nad c l).length<=l.length+1
 | [],c=>by
  rw[zC];split
  ·exact jw 1
  ·exact Nat.le_refl 1
 |x::l,c=>by
  rw[zD];split
  ·exact pi (sP l _)
  ·rw[bq,ea,wa]
   refine Nat.add_le_add (sP l x) ?_
   split
   ·exact jw 1
   ·exact Nat.le_refl 1
theorem Run.sorted(h:Run a b [⟨0,a.length,0,b.length⟩] [] r):r.Pairwise (λx y=>x.i≠y.i)/\CH a b 0 0 (isort T3.i r):=by
 refine xA (h.ok (λw k=>by
    cases dv.mp k
    exact⟨c4 _,fz _,c4 _,c4 _,fz _,c4 _⟩) (λq h=>bv h dz) (List.pairwise_singleton _ _) .nil λq q q h=>bv h dz) (λh1 f=>?_)
 have g:r.Pairwise (λx y=>x.i≠y.i):=f.imp_of_mem λ{x y} m l s e=>by
  have j:=(h1 y l).p
  refine Or.elim s (λs=>(bv (iw (Int.lt_add_of_pos_right x.i ((h1 x m).p)) s.1) (e▸kZ _))) λs=>?_
  ·exact bv (iw (Int.lt_add_of_pos_right y.i j) s.1) (e▸kZ _)
 have d:=λt c=>h1 t ((dR T3.i r).mem_iff.mp c)
 exact⟨g,.of d (((dR T3.i r).pairwise_iff λ{x y} (s:SepT x y)=>s.symm).mpr f) (vQ g) λt c=>⟨(d t c).n.i0,(d t c).n.j0⟩⟩
theorem Run.len(h:Run a b [⟨0,a.length,0,b.length⟩] [] r):r.length<=a.length:=by
 exact A202 (rwR ((dR T3.i r).length_eq) (h.sorted.2.len (fz _)))
set_option genCtorIdx true in
inductive Tg where |rep |del |ins |eq
structure Op where
 tag:Tg
 i1:Int
 i2:Int
 j1:Int
 j2:Int
def gap(i j i' j':Int):aq Op:=if i<i' then if j<j' then [⟨.rep,i,i',j,j'⟩] else [⟨.del,i,i',j,j'⟩] else if j<j' then [⟨.ins,i,i',j,j'⟩] else []
def ops(i j:Int):aq T3->aq Op
 | []=>[]
 |t::l=>gap i j t.i t.j++((if t.k=0 then [] else [Op.mk .eq t.i (t.i+t.k) t.j (t.j+t.k)])++ops (t.i+t.k) (t.j+t.k) l)
theorem ops_c(i j:Int)(t:T3)(l:aq T3):ops i j (t::l)=gap i j t.i t.j++((if t.k=0 then [] else [Op.mk .eq t.i (t.i+t.k) t.j (t.j+t.k)])++ops (t.i+t.k) (t.j+t.k) l):=rfl
class inductive NA(a b:aq Int):ec->Int->Int->aq T3->Prop
 |nil {f:ec}{i j:Int}:NA a b f i j []
 |cons {f:ec}{i j:Int}{t:T3}{l:aq T3} (hi:i<=t.i) (hj:j<=t.j) (st:f=be->i<t.i\/j<t.j) (B:Bx a b t) (h:NA a b be (t.i+t.k) (t.j+t.k) l):NA a b f i j (t::l)
theorem Bx.nz(B:Bx a b c):c.k≠0:=λz=>bv B.p (z▸kZ _)
theorem Bx.join(B:Bx a b c)(X:Bx a b x)(d:c.i+c.k=x.i)(e:c.j+c.k=x.j):Bx a b ⟨c.i,c.j,c.k+x.k⟩:=by
 have n:=X.n
 refine⟨Int.add_pos_of_pos_of_nonneg B.p n.k0,B.n.i0,?_,B.n.j0,?_,Int.add_nonneg B.n.k0 n.k0,λt f g=>?_⟩
 ·rw[<-me,d];exact n.i1
 ·rw[<-me,e];exact n.j1
 ·by_cases q:t<c.k
  ·exact B.n.m t f q
  ·have:=n.m (t-c.k) (h7 (kz.mp q)) (Int.sub_left_lt_of_lt_add g)
   rw[<-d,<-e,me,me,show c.k+(t-c.k)=t from (zzI0 0x169a29068003 [c.k,t] ⋯)]at this
   exact this
theorem lI:∀ {l:aq T3}{c:T3}{f:ec}{i j:Int},CH a b (c.i+c.k) (c.j+c.k) l->Bx a b c->i<=c.i->j<=c.j->(f=be->i<c.i\/j<c.j)->NA a b f i j (nad c l):=λ{n}=>by
 induction n with
 |nil=>
  intro c f i j _ B e d st
  rw[zC,bz B.nz]
  exact .cons e d st B .nil
 |cons x l o=>
  intro c f i j h B e d st
  cases h with
  |cons g m X h=>
  rw[zD]
  by_cases q:c.i+c.k=x.i/\c.j+c.k=x.j
  ·rw[ca q]
   refine o ?_ (B.join X q.1 q.2) e d st
   rw[<-me,<-me,q.1,q.2];exact h
  ·rw[bz q,bz B.nz]
   refine .cons e d st B (o h X g m λr=>?_)
   by_cases p:c.i+c.k=x.i
   ·exact .inr (Int.lt_iff_le_and_ne.mpr ⟨m,λz=>q ⟨p,z⟩⟩)
   ·exact .inl (Int.lt_iff_le_and_ne.mpr ⟨g,p⟩)
class inductive Cod(a b:aq Int):bc ec->Int->Int->aq Op->Prop
 |nil {f:bc ec}:Cod a b f a.length b.length []
 |eq {f:bc ec}{i j k:Int}{l:aq Op} (hf:f≠am be) (p:0<k) (m:Mt a b i j k) (h:Cod a b (am be) (i+k) (j+k) l):Cod a b f i j (⟨.eq,i,i+k,j,j+k⟩::l)
 |ch {f:bc ec}{i j i' j':Int}{g:Tg}{l:aq Op} (hf:f≠am false) (hg:g≠ .eq) (hi:i<=i') (hj:j<=j') (lt:i<i'\/j<j') (h:Cod a b (am false) i' j' l):Cod a b f i j (⟨g,i,i',j,j'⟩::l)
theorem Cod.gap(m:f≠am false)(k:i<=c)(g:j<=d)(h1:i=c->j=d->Cod a b f i j l)(h2:Cod a b (am false) c d l):Cod a b f i j (Mine.Internal.gap i j c d++l):=by
 unfold Mine.Internal.gap
 by_cases e:i<c
 ·rw[ca e]
  split
  ·exact .ch m nofun k g (.inl e) h2
  ·exact .ch m nofun k g (.inl e) h2
 ·rw[bz e]
  by_cases h:j<d
  ·exact rwL (ca h) (.ch m nofun k g (.inr h) h2)
  ·exact rwL (bz h) (h1 (Int.le_antisymm k (kz.mp e)) (Int.le_antisymm g (kz.mp h)))
def fl(f:ec):bc ec:=if f=be then am be else ba
theorem NA.cod(h:NA a b f i j l)(o:i<=a.length)(g:j<=b.length):Cod a b (fl f) i j (ops i j (l++[⟨a.length,b.length,0⟩])):=by
 have d:∀ f,fl f≠am false:=λf=>by cases f<;>nofun
 induction h with
 | @nil f i j=>
  exact Cod.gap (d f) o g (λe1 c=>(rwL e1 (rwL c .nil))) .nil
 | @cons f i j t l k r st B h e=>
  rw[List.cons_append,ops_c,bz B.nz]
  refine Cod.gap (d f) k r (λe1 c=>?_) (.eq nofun B.p B.n.m (e B.n.i1 B.n.j1))
  subst e1 c
  refine .eq (λz=>?_) B.p B.n.m (e B.n.i1 B.n.j1)
  cases f with
  |false=>cases z
  |true=>rcases st rfl with q |q<;>exact kZ _ q
def fs0:Str->bc V:=fput (fput (fput (fput (λq=>ba) "isjunk" .none) "a" .none) "b" .none) "autojunk" (.bool be)
def fsN(ra rb rd rj rp:Nat):Str->bc V:=fs3 (fs2 (fs1 fs0 ra) rb) rd rj rp
theorem aHu(h:H[s]? =am (.inst fs))(c:fs "a" =am .none)(d:fs "b" =am .none)(k:fX X [.ref s] (H.set s (.inst (fs2 (fs1 fs ra) rb))) λq H'=>Q .none H'):iU X [.ref s,.ref ra,.ref rb] H Q:=by
 refine kch (B:=(3=3/\(∃ a,H[s]? =am (.inst a))/\iW X [.ref s,.ref ra] H λq H2=>(∃ a,H2[s]? =am (.inst a))/\iV X [.ref s,.ref rb] H2 λq H3=>Q .none H3)) ⋯ ⟨rfl,⟨_,h⟩,uW X h c ⟨⟨_,aP h _⟩,(by
  intro C X H s rb fs Q h c k
  refine kch (B:=(2=2/\At s "b" H λv=>Lp (oIs id (.ref rb) v H) λv H1=>Lf (tr v H1) λb=>bif b then Q .none H1 else St s "b" (.ref rb) H1 λH2=>St s "matching_blocks" .none H2 λH3=>St s "opcodes" .none H3 λH4=>St s "fullbcount" .none H4 λH5=>(∃ a,H5[s]? =am (.inst a))/\fX X [.ref s] H5 λq H'=>Q .none H')) ⋯
   ⟨rfl,At.mk h c (Lp.mk rfl (Lf.mk rfl (b8 (St.mk h (St.mk (aP h _) (St.mk (aP (aP h _) _) (St.mk (aP (aP (aP h _) _) _) ?_)))))))⟩
  rw[sO,sO,sO];exact⟨⟨_,aP h _⟩,k⟩:∀{C:Cx}(X:XX C){H:MH}{s rb:Nat}{fs:Str->bc V}{Q:EK}(h:H[s]? =am (.inst fs))(c:fs "b" =am .none)(k:fX X [.ref s] (H.set s (.inst (fs2 fs rb))) λq H'=>Q .none H'),iV X [.ref s,.ref rb] H Q) X (aP h _) d ?_⟩⟩
 rw[sO];exact k
theorem aIv:yF X [.ref s,.none,.ref ra,.ref rb] H Q=(5=5/\St s "isjunk" .none H λH1=>St s "a" .none H1 λH2=>St s "b" .none H2 λH3=>St s "autojunk" (.bool be) H3 λH4=>(∃ a,H4[s]? =am (.inst a))/\iU X [.ref s,.ref ra,.ref rb] H4 λq H'=>Q .none H'):=by kernel_rfl
theorem yN(o:LI H ra a)(j:LI H rb b)(al:a.length<200)(g:b.length<200)(k:∀ {H' rd d rp n f},Hx H H'->SM H' H.length ra rb rd d n (fsN ra rb rd d rp) f a b->Q (.ref H.length) H'):X.c_SM [.none,.ref ra,.ref rb] H Q:=by
 have i:=aT H (.inst λu=>ba)
 have h:=aP i (.inst (fput (λu=>ba) "isjunk" .none))
 have l:=aP h (.inst (fput (fput (λu=>ba) "isjunk" .none) "a" .none))
 have m:=aP l (.inst (fput (fput (fput (λu=>ba) "isjunk" .none) "a" .none) "b" .none))
 have c:=aP m (.inst fs0)
 refine kch (aIv X) ⟨rfl,St.mk i (St.mk h (St.mk l (St.mk m ⟨⟨_,c⟩,aHu X c ⋯ ⋯ (yE X (t:=be) (aP c (.inst (fs2 (fs1 fs0 ra) rb))) ((((((Hx.app H [.inst λu=>ba]).set (aI H)).set (aI H)).set (aI H)).set (aI H)).set (aI H)) (aI H) j (iq g (by decide)) (λu=>g) ⋯ ⋯ ⋯ λ{H' rd d rp n f} e r p q s u=>⟨rfl,k e ⟨r,by kernel_rfl,by kernel_rfl,by kernel_rfl,by kernel_rfl,e.li o,e.li j,p,q,s,iq al (by decide),iq g (by decide)⟩⟩)⟩)))⟩
def Wd.v(w:Wd):V:=.tup [.int w.al,.int w.ah,.int w.bl,.int w.bh]
def T3.v(t:T3):V:=.mat t.i t.j t.k
def T3.t(t:T3):V:=.tup [.int t.i,.int t.j,.int t.k]
structure GC where
 s:Nat
 la:Int
 lb:Int
 q:Nat
 m:Nat
def fG(s la lb q m al ah bl bh i j k x:bc V):Nv:=[("self",s),("la",la),("lb",lb),("queue",q),("matching_blocks",m),("alo",al),("ahi",ah),("blo",bl),("bhi",bh),("i",i),("j",j),("k",k),("x",x),("i1",ba),("j1",ba),("k1",ba),("non_adjacent",ba),("i2",ba),("j2",ba),("k2",ba)]
def gL(c:GC)(al ah bl bh i j k x:bc V):Lo:=look (fG (am (.ref c.s)) (am (.int c.la)) (am (.int c.lb)) (am (.ref c.q)) (am (.ref c.m)) al ah bl bh i j k x)
def gL'(c:GC)(w:Wd)(i j k x:bc V):Lo:=gL c (am (.int w.al)) (am (.int w.ah)) (am (.int w.bl)) (am (.int w.bh)) i j k x
theorem jJ(c:lo x=am (.ref r))(b:∀ (H:MH) (Q:EK),Q v H->g lo H Q)(h:H[r]? =am (.list vs))(a:vs.length<1000000)(k:K .next lo (H.set r (.list (vs++[v])))):bE (c9 (eN x) g) lo H K:=Lf.mk c (Lf.mk rfl ⟨⟨_,h⟩,b _ _ (Lf.mk (d9 h) ⟨a,k⟩)⟩)
inductive QI(a b:aq Int)(c:GC)(G:MH)(n:Nat)(lo:Lo)(H:MH):Prop
 |mk {q:aq Wd}{m:aq T3}{al ah bl bh i j k x:bc V} (el:lo=gL c al ah bl bh i j k x) (hx:Hx G H) (hq:H[c.q]? =am (.list (q.reverse.map Wd.v))) (hm:H[c.m]? =am (.list (m.map T3.v)))
   (w:∀ v∈q,WOk a b v) (r:∀ r,Run a b q m r->Run a b [⟨0,c.la,0,c.lb⟩] [] r) (n1:mu q<=n) (n2:m.length+mu q<=1000):QI a b c G n lo H
theorem gF_nf{X:XX C}:gF X (gL' c w i j k x) H K=((∃ ff,H[c.s]? =am (.inst ff))/\bV X [.ref c.s,.int w.al,.int w.ah,.int w.bl,.int w.bh] H λv H2=> iY (cM 3 (asC (aN "i") (asC (aN "j") (asC (aN "k") asN)))) (aN "x") v (gL' c w i j k x) H2 λlo' H3=>gI X lo' H3 K):=by kernel_rfl
theorem gF_set{X:XX C}{t:T3}(q:gI X (gL' c w (am (.int t.i)) (am (.int t.j)) (am (.int t.k)) (am t.v)) H K):iY (cM 3 (asC (aN "i") (asC (aN "j") (asC (aN "k") asN)))) (aN "x") t.v (gL' c w i j k x) H λlo' a=>gI X lo' a K:=by
 refine kch (B:=(3=3/\gI X (upd (upd (upd (upd (gL' c w i j k x) "i" (.int t.i)) "j" (.int t.j)) "k" (.int t.k)) "x" t.v) H K)) ⋯ ⟨rfl,?_⟩
 unfold gL' gL
 rw[aD,aD,aD,aD]
 exact q
def gT(c:GC)(w:Wd)(t:T3):Lo:=gL' c w (am (.int t.i)) (am (.int t.j)) (am (.int t.k)) (am t.v)
theorem gI_nf{X:XX C}:gI X (gT c w t) H K=(bif t.k != 0 then gA (gT c w t) H K else K .next (gT c w t) H):=by kernel_rfl
theorem gH_nf:gH (gT c w t) H K=(bif decide (w.al<t.i) then bif decide (w.bl<t.j) then gP1 (gT c w t) H (bW gJ K) else gJ (gT c w t) H K else gJ (gT c w t) H K):=by kernel_rfl
theorem gJ_nf:gJ (gT c w t) H K=(bif decide (t.i+t.k<w.ah) then bif decide (t.j+t.k<w.bh) then gP2 (gT c w t) H K else K .next (gT c w t) H else K .next (gT c w t) H):=by kernel_rfl
def Ex(H H':MH)(i:Nat):Prop:=∀ (j:Nat) (m:MO),i≠j->H[j]? =am m->H'[j]? =am m
theorem Ex.set:Ex H (H.set i m) i:=λj x n e=>aM e n
theorem Ex.trans{H1 a:MH}(h:Ex H H1 i)(h':Ex H1 a i):Ex H a i:=λj m n e=>h' j m n (h j m n e)
theorem Ex.hx(h:Ex H H' i)(x:Hx G H)(a:G[i]? =ba):Hx G H':=λj m e=>h j m (λz=>by rw[z,e]at a;exact cyM a) (x j m e)
theorem pM(q:aq Wd)(w:Wd):(w::q).reverse.map Wd.v=q.reverse.map Wd.v++[w.v]:=by rw[List.reverse_cons,bI];rfl
theorem qlen{q:aq Wd}(h:q.length<n):(q.reverse.map Wd.v).length<n:=by rw[bg,List.length_reverse];exact h
theorem gJ_i(h:H[c.q]? =am (.list (q.reverse.map Wd.v)))(b:q.length<1000000)(k:∀ {H'},H'[c.q]? =am (.list ((kH w t.i t.j t.k q).reverse.map Wd.v))->Ex H H' c.q->K .next (gT c w t) H'):gJ (gT c w t) H K:=by
 unfold kH at k
 refine kch gJ_nf ?_
 by_cases a:t.i+t.k<w.ah
 ·by_cases d:t.j+t.k<w.bh
  ·rw[ca ⟨a,d⟩,pM]at k
   rw[bm a,bm d]
   exact (by
    intro H K c w t vs h b k
    delta gP2
    exact aK (jJ ⋯ (λH Q q=>kch (B:=(4<100/\Q (Wd.v ⟨t.i+t.k,w.ah,t.j+t.k,w.bh⟩) H)) ⋯ ⟨by decide,q⟩) h b k):∀{H:MH}{K:SK}{c:GC}{w:Wd}{t:T3}{vs:aq V}(h:H[c.q]? =am (.list vs))(b:vs.length<1000000)(k:K .next (gT c w t) (H.set c.q (.list (vs++[Wd.v ⟨t.i+t.k,w.ah,t.j+t.k,w.bh⟩])))),gP2 (gT c w t) H K) h (qlen b) (k (aP h _) .set)
  ·rw[bz λz=>d z.2]at k
   rw[bm a,bp d]
   exact k h λf f f e=>e
 ·rw[bz λz=>a z.1]at k
  exact rwL (bp a) (k h λf f f e=>e)
theorem gH_i(h:H[c.q]? =am (.list (q.reverse.map Wd.v)))(a:q.length<999999)(k:∀ {H'},H'[c.q]? =am (.list ((kH w t.i t.j t.k (jE w t.i t.j q)).reverse.map Wd.v))->Ex H H' c.q->K .next (gT c w t) H'):gH (gT c w t) H K:=by
 unfold jE at k
 refine kch gH_nf ?_
 by_cases b:w.al<t.i
 ·by_cases d:w.bl<t.j
  ·rw[ca ⟨b,d⟩]at k
   rw[bm b,bm d]
   exact (by
    intro H K c w t vs h a k
    delta gP1
    exact aK (jJ ⋯ (λH Q q=>kch (B:=(4<100/\Q (Wd.v ⟨w.al,t.i,w.bl,t.j⟩) H)) ⋯ ⟨by decide,q⟩) h a k):∀{H:MH}{K:SK}{c:GC}{w:Wd}{t:T3}{vs:aq V}(h:H[c.q]? =am (.list vs))(a:vs.length<1000000)(k:K .next (gT c w t) (H.set c.q (.list (vs++[Wd.v ⟨w.al,t.i,w.bl,t.j⟩])))),gP1 (gT c w t) H K) h (qlen (iq a (by decide))) (gJ_i (q:=⟨w.al,t.i,w.bl,t.j⟩::q) (by rw[pM];exact aP h _) (Nat.succ_lt_succ a) λh1 e=>k h1 (Ex.set.trans e))
  ·rw[bz λz=>d z.2]at k
   rw[bm b,bp d]
   exact gJ_i h (iq a (by decide)) k
 ·rw[bz λz=>b z.1]at k
  exact rwL (bp b) (gJ_i h (iq a (by decide)) k)
theorem sD(h:H[r]? =am (.list vs))(a:vs.length<1000000):tr (.ref r) H=am (!vs.isEmpty):=by
 show(lst H (.ref r)).bind _=_
 exact rwL (aL h) (ca a)
theorem q_step{rd:Nat}(S:SM G c.s ra rb rd rj n fs f a b)(gq:G[c.q]? =ba)(gm:G[c.m]? =ba)(T:c.q≠c.m)(I:QI a b c G N lo H)(hQ:∀ {lo H},QI a b c G 0 lo H->Q .next lo H):tE (eN "queue") lo H λt H1=>bif t then ∀ K,GoK (λlo' H'=>∃ N',N'<N/\QI a b c G N' lo' H') Q K->gB X lo H1 K else Q .next lo H1:=by
 cases I with
 | @mk q m al J E F i j k x el A z Y w r n1 g=>
 subst el
 have Z:=xB q
 refine aW ⋯ (Lf.mk (sD z (qlen (A184 g Z))) ?_)
 cases q with
 |nil=>exact hQ (.mk rfl A z Y w r (Nat.le_refl _) g)
 |cons w0 q=>
  rw[pM]at z ⊢
  rw[show (!(q.reverse.map Wd.v++[w0.v]).isEmpty)=be by simp]
  intro K U
  have y:=Nat.lt_of_succ_lt_succ (A184 g Z)
  refine (by
   intro C H K X c w vs al J E F i j k x h u q
   refine aK (aDd ((by
    intro H lo x r vs v Q A h u k
    have e:(vs++[v]).length=vs.length+1:=by rw[bq];rfl
    refine Lf.mk A (Lf.mk rfl (Lf.mk (d9 h) ⟨by rw[e];exact Nat.succ_lt_succ u,Lf.mk (p:=v) ?_ ?_⟩))
    ·rw[e,Nat.add_sub_cancel,gM (Nat.le_refl _),pI];rfl
    ·rw[e,Nat.add_sub_cancel,List.eraseIdx_append_of_length_le (Nat.le_refl _),pI]
     show Q v (H.set r (.list (vs++[])))
     rw[gz];exact k:∀{H:MH}{lo:Lo}{x:Str}{r:Nat}{vs:aq V}{v:V}{Q:EK}(A:lo x=am (.ref r))(h:H[r]? =am (.list (vs++[v])))(u:vs.length<999999)(k:Q v (H.set r (.list vs))),ePop (eN x) lo H Q) ⋯ h u (kch (B:=(4=4/\gF X (upd (upd (upd (upd (gL c al J E F i j k x) "alo" (.int w.al)) "ahi" (.int w.ah)) "blo" (.int w.bl)) "bhi" (.int w.bh)) (H.set c.q (.list vs)) K)) ⋯ ⟨rfl,?_⟩)))
   delta gL
   rw[aD,aD,aD,aD]
   exact q:∀{C:Cx}{H:MH}{K:SK}{X:XX C}{c:GC}{w:Wd}{vs:aq V}{al J E F i j k x:bc V}(h:H[c.q]? =am (.list (vs++[w.v])))(u:vs.length<999999)(q:gF X (gL' c w i j k x) (H.set c.q (.list vs)) K),gB X (gL c al J E F i j k x) H K) z (qlen y) (kch gF_nf ?_)
  have R:Hx G (H.set c.q (.list (q.reverse.map Wd.v))):=A.set gq
  have D:=w w0 (.head _)
  refine⟨⟨_,(S.hx R).o⟩,flm_ok X (S.hx R) D λ{i j k H2} M B=>gF_set (t:=⟨i,j,k⟩) ?_⟩
  have l:=M _ _ (aP z (.list (q.reverse.map Wd.v)))
  have d:=M _ _ (aM (m':=.list (q.reverse.map Wd.v)) Y T)
  have W:=R.trans M
  refine kch gI_nf ?_
  by_cases P:k=0
  ·subst P
   refine U.nx ⟨mu q,A185 n1 (ou _ _) rfl,.mk rfl W l d (λv O=>w v (.tail _ O)) (λr' h=>r r' (.zero B h)) (Nat.le_refl _) ?_⟩
   ·exact A186 g rfl
  ·have L:=by exact A187 P B.n.k0
   refine rwL (show (k != 0)=be from vu.mpr P) (b7 (aK (aDe (v:=T3.v ⟨i,j,k⟩) ⋯ ⋯ d (by rw[bg];exact zzM1 0x57b0ca0f41f680007e8f69a00007 [m.length,mu (w0 :: q)] ⋯ g) (gH_i (aM l T.symm) y λ{H'} h1 e=>U.nx ⟨_,Nat.lt_of_lt_of_le (mu_sub B L q) n1,.mk rfl (e.hx (W.set gm) gq) h1 (rwL bI (e _ _ T (aP d _))) (yX D B λv O=>w v (.tail _ O)) (λr' h=>r r' (.pos B L h)) (Nat.le_refl _) ?_⟩))))
   ·exact rwL bq (rwL gu (A189 g (mu_sub B L q)))
def nL(c:GC)(o1 o2 o3 o4 o5 o6 o7 o8:bc V)(t:T3)(na:Nat)(u1 u2 u3:bc V):Lo:=look [("self",am (.ref c.s)),("la",am (.int c.la)),("lb",am (.int c.lb)),("queue",am (.ref c.q)),("matching_blocks",am (.ref c.m)),("alo",o1),("ahi",o2),("blo",o3),("bhi",o4),("i",o5),("j",o6),("k",o7),("x",o8),
  ("i1",am (.int t.i)),("j1",am (.int t.j)),("k1",am (.int t.k)),("non_adjacent",am (.ref na)),("i2",u1),("j2",u2),("k2",u3)]
def nT:AF:=cM 3 (asC (aN "i2") (asC (aN "j2") (asC (aN "k2") asN)))
def nE:SF:=aB (sIf (tE (eN "k1")) nP (sK .next)) nS
def nB:SF:=aB (sIf (bC (tE (aA (aX id) (aA aH (eN "i1") (eN "k1")) (eN "i2"))) (bC (tE (aA (aX id) (aA aH (eN "j1") (eN "k1")) (eN "j2"))) (tK be))) (aB (sH "k1" nR (eN "k2")) (sK .next)) nE) (sK .next)
def nX(c:GC)(o1 o2 o3 o4 o5 o6 o7 o8:bc V)(t:T3)(na:Nat)(x:T3):Lo:=nL c o1 o2 o3 o4 o5 o6 o7 o8 t na (am (.int x.i)) (am (.int x.j)) (am (.int x.k))
theorem nT_i{o2 o3:bc V}(q:nB (nX c o1 o2 o3 o4 o5 o6 o7 o8 t na x) H K):nT x.v (nL c o1 o2 o3 o4 o5 o6 o7 o8 t na u1 u2 u3) H λlo1 H1=>nB lo1 H1 K:=by
 refine kch (B:=(3=3/\nB (upd (upd (upd (nL c o1 o2 o3 o4 o5 o6 o7 o8 t na u1 u2 u3) "i2" (.int x.i)) "j2" (.int x.j)) "k2" (.int x.k)) H K)) ⋯ ⟨rfl,?_⟩
 delta nL
 rw[aD,aD,aD]
 exact q
theorem nB_nf{o2 o3:bc V}:nB (nX c o1 o2 o3 o4 o5 o6 o7 o8 t na x) H K=(bif decide (t.i+t.k=x.i) then bif decide (t.j+t.k=x.j) then K .next (upd (nX c o1 o2 o3 o4 o5 o6 o7 o8 t na x) "k1" (.int (t.k+x.k))) H else nE (nX c o1 o2 o3 o4 o5 o6 o7 o8 t na x) H (bW (sK .next) K) else nE (nX c o1 o2 o3 o4 o5 o6 o7 o8 t na x) H (bW (sK .next) K)):=by kernel_rfl
theorem nE_nf{o2 o3:bc V}:nE (nX c o1 o2 o3 o4 o5 o6 o7 o8 t na x) H K=(bif t.k != 0 then nP (nX c o1 o2 o3 o4 o5 o6 o7 o8 t na x) H (bW nS K) else nS (nX c o1 o2 o3 o4 o5 o6 o7 o8 t na x) H K):=by kernel_rfl
theorem nP_i{o2 o3:bc V}(h:H[na]? =am (.list vs))(a:vs.length<1000000)(k:K .next (nL c o1 o2 o3 o4 o5 o6 o7 o8 t na u1 u2 u3) (H.set na (.list (vs++[t.t])))):nP (nL c o1 o2 o3 o4 o5 o6 o7 o8 t na u1 u2 u3) H K:=by
 delta nP
 exact aK (jJ ⋯ (λH Q q=>kch (B:=(3<100/\Q t.t H)) ⋯ ⟨by decide,q⟩) h a k)
theorem nS_i{o2 o3:bc V}(q:K .next (nX c o1 o2 o3 o4 o5 o6 o7 o8 x na x) H):nS (nX c o1 o2 o3 o4 o5 o6 o7 o8 t na x) H K:=by
 refine kch (B:=(3<100/\3=3/\K .next (upd (upd (upd (nX c o1 o2 o3 o4 o5 o6 o7 o8 t na x) "k1" (.int x.k)) "j1" (.int x.j)) "i1" (.int x.i)) H)) ⋯ ⟨by decide,rfl,?_⟩
 unfold nX nL
 rw[aD,aD,aD]
 exact q
theorem nK_i{o2 o3:bc V}(q:K .next (nX c o1 o2 o3 o4 o5 o6 o7 o8 ⟨t.i,t.j,k⟩ na x) H):K .next (upd (nX c o1 o2 o3 o4 o5 o6 o7 o8 t na x) "k1" (.int k)) H:=by
 unfold nX nL
 rw[aD]
 exact q
inductive NI(c:GC)(na:Nat)(G:MH)(all:aq T3)(rest:aq V)(lo:Lo)(H:MH):Prop
 |mk {o1 o2 o3 o4 o5 o6 o7 o8 u1 u2 u3:bc V}{t:T3}{acc l:aq T3} (el:lo=nL c o1 o2 o3 o4 o5 o6 o7 o8 t na u1 u2 u3) (er:rest=l.map T3.v) (hx:Hx G H) (hn:H[na]? =am (.list (acc.map T3.t)))
   (e:acc++nad t l=all) (n:acc.length+l.length<=1000):NI c na G all rest lo H
theorem n_step{b:aq T3}{a:aq V}(gn:G[na]? =ba)(I:NI c na G b (v::a) lo H)(h:GoK (NI c na G b a) Q K):nT v lo H λlo1 H1=>nB lo1 H1 K:=by
 cases I with
 | @mk u o2 o3 y D r A p E F J t acc l C o m g e n=>
 refine bM (List.map_eq_cons_iff.mp o.symm) λx l' s w B=>?_
 subst s w B C
 rw[ea]at n
 refine nT_i (kch nB_nf ?_)
 rw[zD]at e
 have other: ¬(t.i+t.k=x.i/\t.j+t.k=x.j)->nE (nX c u o2 o3 y D r A p t na x) H (bW (sK .next) K):=λz=>by
  rw[bz z]at e
  refine kch nE_nf ?_
  by_cases q:t.k=0
  ·rw[ca q]at e
   exact rwL (show (t.k != 0)=false from by rw[q];rfl) (b8 (nS_i (h.nx (.mk rfl rfl m g e (A190 n)))))
  ·rw[bz q]at e
   refine rwL (show (t.k != 0)=be from vu.mpr q) (b7 (nP_i g (by rw[bg];exact A191 n) (nS_i (h.nx (.mk (acc:=acc++[t]) rfl rfl (m.set gn) (rwL bI (aP g _)) ?_ ?_)))))
   ·rw[dt];exact e
   ·exact rwL bq (rwL gu (A192 n))
 by_cases d:t.i+t.k=x.i
 ·by_cases f:t.j+t.k=x.j
  ·rw[ca ⟨d,f⟩]at e
   rw[bm d,bm f]
   exact nK_i (h.nx (.mk rfl rfl m g e (A190 n)))
  ·rw[bm d,bp f]
   exact other λz=>f z.2
 ·exact rwL (bp d) (other λz=>d z.1)
theorem aId{P:bc (V×(Nat×Nat))->MH->Prop}{b:qS C 2}{t:T3}(a:lst H (.ref r)=am vs)(e:vs[p]? =am t.t)(h:P (am (t.v,(r,p+1))) H):(s6 C 2 b).nx (r,p) H P:=Lf.mk a (by exact rwL e h)
theorem zJ{f:qS C 2}(c:G[na]? =am (.list (l.map T3.t)))(g:G[ai]? =ba)(d:l.length<1000000)(k:∀ {H'},Hx G H'->H'[ai]? =am (.list (l.map T3.v))->P H'):∀ (a done:aq T3){H:MH},done++a=l->Hx G H->H[ai]? =am (.list (done.map T3.v))->gE (s6 C 2 f) ai (a.length+1) (na,done.length) H P:=λn=>by
 induction n with
 |nil=>
  intro done H e b h
  rw[gz]at e
  subst e
  exact (Lf.mk (aL (b _ _ c)) (by exact rwL (gV (by rw[bg];exact Nat.le_refl _)) (k b h)))
 |cons t a i=>
  refine λdone H e b h=>(aId (t:=t) (aL (b _ _ c)) ?_ (Lf.mk (d9 h) ⟨?_,?_⟩))
  ·rw[gh,<-e,gM (Nat.le_refl _),pI];rfl
  ·rw[bg]
   rw[<-e,bq]at d
   exact hV (r5 _ _) d
  ·have:=i (done++[t]) (by rw[dt];exact e) (b.set g) (by exact rwL bI (aP h _))
   rw[bq]at this
   exact this
theorem len_i(h:LI H r l)(a:l.length<1000000)(q:Q (.int l.length) H):b5 [.ref r] H Q:=by
 refine Lp.mk ?_ q
 show(lst H (.ref r)).bind _=_
 rw[h]
 show(if (l.map V.int).length<1000000 then _ else _)=_
 rw[bg,ca a]
theorem zR(x:T3):∀ l:aq T3,ins fR x.v (l.map T3.v)=(ins T3.i x l).map T3.v:=λn=>by
 induction n with
 |nil=>
  exact rfl
 |cons y r a=>
  show(if x.i<y.i then x.v::y.v::r.map T3.v else y.v::ins fR x.v (r.map T3.v))=(if x.i<y.i then x::y::r else y::ins T3.i x r).map T3.v
  refine rwL a ?_
  split<;>rfl
theorem rN:∀ l:aq T3,isort fR (l.map T3.v)=(isort T3.i l).map T3.v
 | []=>rfl
 |x::r=>by
  show ins fR x.v (isort fR (r.map T3.v))=(ins T3.i x (isort T3.i r)).map T3.v
  rw[rN r,zR]
def Blocks(a b:aq Int)(bl:aq T3):Prop:=∃ r,Run a b [⟨0,a.length,0,b.length⟩] [] r/\bl=nad ⟨0,0,0⟩ (isort T3.i r)++[⟨a.length,b.length,0⟩]
theorem Blocks.uniq(h:Blocks a b l)(h':Blocks a b l'):l=l':=by
 refine xEA h λr d e=>xEA h' λr' f c=>?_
 cases d.uniq f
 rw[e,c]
theorem fG_0:loB ["self"] [.ref s] lo0=look (fG (am (.ref s)) ba ba ba ba ba ba ba ba ba ba ba ba):=by
 rw[<-fW (fG ba ba ba ba ba ba ba ba ba ba ba ba ba) ⋯]
 show upd _ "self" (.ref s)=_
 rw[aD];kernel_rfl
theorem aHi{a:ec->MH->Prop}(h:tE (eN x) lo H P)(k:∀ c H',P c H'->a c H'):tE (eN x) lo H a:=Lf.elim h λv e h=>Lf.mk e (Lf.elim h λc e h=>Lf.mk e (k _ _ h))
def gR11:SF:=aB (bR X) (gR12 X)
def gR10:SF:=aB (cI X) (gR11 X)
def gR9:SF:=aB (cJ X) (gR10 X)
theorem g_6{o2 o3:bc V}:gR6 X (gL c o1 o2 o3 o4 o5 o6 o7 o8) H K=(Lf (H[c.m]?.bind MO.own) λvs=>okSort vs/\gR9 X (upd (upd (upd (upd (gL c o1 o2 o3 o4 o5 o6 o7 o8) "i1" (.int 0)) "j1" (.int 0)) "k1" (.int 0)) "non_adjacent" (.ref (H.set c.m (.list (isort fR vs))).length)) (H.set c.m (.list (isort fR vs))++[.list []]) K):=by kernel_rfl
theorem g_6n{o2 o3:bc V}:upd (upd (upd (upd (gL c o1 o2 o3 o4 o5 o6 o7 o8) "i1" (.int 0)) "j1" (.int 0)) "k1" (.int 0)) "non_adjacent" (.ref na)=nL c o1 o2 o3 o4 o5 o6 o7 o8 ⟨0,0,0⟩ na ba ba ba:=by
 unfold gL nL
 rw[aD,aD,aD,aD];kernel_rfl
theorem g_9{o2 o3:bc V}:gR9 X (nL c o1 o2 o3 o4 o5 o6 o7 o8 t na u1 u2 u3) H K=((∃ vs,lst H (.ref c.m)=am vs)/\∃ n,dK (bB C) nT nB n (c.m,0) (nL c o1 o2 o3 o4 o5 o6 o7 o8 t na u1 u2 u3) H (bW (gR10 X) K)):=by kernel_rfl
theorem g_10{o2 o3:bc V}:gR10 X (nL c o1 o2 o3 o4 o5 o6 o7 o8 t na u1 u2 u3) H K=(bif t.k != 0 then nP (nL c o1 o2 o3 o4 o5 o6 o7 o8 t na u1 u2 u3) H (bW (gR11 X) K) else gR11 X (nL c o1 o2 o3 o4 o5 o6 o7 o8 t na u1 u2 u3) H K):=by kernel_rfl
theorem g_12{o2 o3:bc V}:gR12 X (nL c o1 o2 o3 o4 o5 o6 o7 o8 t na u1 u2 u3) H (kK Q)=((∃ vs,lst H (.ref na)=am vs)/\∃ n,gE (s6 C 2 X.makeM) H.length n (na,0) (H++[.list []]) λH2=>St c.s "matching_blocks" (.ref H.length) H2 λH3=>At c.s "matching_blocks" H3 λv=>Q v H3):=by kernel_rfl
theorem g_11{o2 o3:bc V}(h:H[na]? =am (.list vs))(a:vs.length<1000000)(k:gR12 X (nL c o1 o2 o3 o4 o5 o6 o7 o8 t na u1 u2 u3) (H.set na (.list (vs++[T3.t ⟨c.la,c.lb,0⟩]))) K):gR11 X (nL c o1 o2 o3 o4 o5 o6 o7 o8 t na u1 u2 u3) H K:=by
 exact aK (jJ ⋯ (λH Q q=>kch (B:=(3<100/\Q (T3.t ⟨c.la,c.lb,0⟩) H)) ⋯ ⟨by decide,q⟩) h a k)
theorem g_1011{o2 o3:bc V}{a:aq T3}(h:H[na]? =am (.list (acc.map T3.t)))(b:acc.length<999999)(e:acc++nad t []=a)(k:∀ {H'},Ex H H' na->H'[na]? =am (.list ((a++[T3.mk c.la c.lb 0]).map T3.t))->gR12 X (nL c o1 o2 o3 o4 o5 o6 o7 o8 t na u1 u2 u3) H' K):gR10 X (nL c o1 o2 o3 o4 o5 o6 o7 o8 t na u1 u2 u3) H K:=by
 refine kch (g_10 X) ?_
 rw[zC]at e
 subst e
 by_cases q:t.k=0
 ·rw[ca q,gz]at k
  exact rwL (show (t.k != 0)=false from by rw[q];rfl) (b8 (g_11 X h (by rw[bg];exact iq b (by decide)) (k .set (rwL bI (aP h _)))))
 ·rw[bz q]at k
  exact rwL (show (t.k != 0)=be from vu.mpr q) (b7 (nP_i h (by rw[bg];exact iq b (by decide)) (g_11 X (aP h (.list (acc.map T3.t++[t.t]))) (by rw[bq,bg];exact Nat.succ_lt_succ b) (k (Ex.set.trans .set) (rwL bI (rwL bI (aP (aP h (.list (acc.map T3.t++[t.t]))) _)))))))
theorem gmb_ok{rd:Nat}(S:SM H s ra rb rd R n fs f a b)(u:fs "matching_blocks" =am .none)(al:a.length<200)(P:∀ r,Run a b [⟨0,a.length,0,b.length⟩] [] r->okSort (r.map T3.v))(k:∀ {H' r G},Ex H H' s->H[r]? =ba->r≠s->H'[s]? =am (.inst (fput fs "matching_blocks" (.ref r)))->H'[r]? =am (.list (G.map T3.v))->Blocks a b G->Q (.ref r) H'):bO X [.ref s] H Q:=by
 refine kch ((by intro C H b X s Q;kernel_rfl:∀{C:Cx}{H:MH}{b:aq Int}(X:XX C){s:Nat}{Q:EK},bO X [.ref s] H Q=(1=1/\At s "matching_blocks" H λv=>Lp (oIs not v .none H) λv H1=>Lf (tr v H1) λb=>bif b then At s "matching_blocks" H1 λv=>Q v H1 else gR2 X (loB ["self"] [.ref s] lo0) H1 (kK Q))) X) ⟨rfl,At.mk S.o u (Lp.mk rfl (Lf.mk rfl (b8 (rwL fG_0 (kch ((by intro C H a b X s K;kernel_rfl:∀{C:Cx}{H:MH}{a:aq Int}{b:aq Int}(X:XX C){s:Nat}{K:SK},gR2 X (look (fG (am (.ref s)) ba ba ba ba ba ba ba ba ba ba ba ba)) H K=(At s "a" H λva=>b5 [va] H λn H1=>At s "b" H1 λvb=>b5 [vb] H1 λm c=>2<100/\2=2/\ aB (bZ X) (aB (bY X) (aB (bX X) (gR6 X))) (upd (upd (look (fG (am (.ref s)) ba ba ba ba ba ba ba ba ba ba ba ba)) "lb" m) "la" n) c K)) X) (At.mk S.o S.fa (len_i S.ia S.al (At.mk S.o S.fb (len_i S.ib S.bl ⟨by decide,rfl,?_⟩)))))))))⟩
 rw[aD,aD]
 refine kch ((by intro C H X s la lb K;kernel_rfl:∀{C:Cx}{H:MH}(X:XX C){s:Nat}{la lb:Int}{K:SK},aB (bZ X) (aB (bY X) (aB (bX X) (gR6 X))) (look (fG (am (.ref s)) (am (.int la)) (am (.int lb)) ba ba ba ba ba ba ba ba ba ba)) H K= (4<100/\∃ n,runW (tE (eN "queue")) (gB X) n (upd (upd (look (fG (am (.ref s)) (am (.int la)) (am (.int lb)) ba ba ba ba ba ba ba ba ba ba)) "queue" (.ref H.length)) "matching_blocks" (.ref (H++[MO.list [Wd.v ⟨0,la,0,lb⟩]]).length)) ((H++[.list [Wd.v ⟨0,la,0,lb⟩]])++[.list []]) (bW (gR6 X) K))) X) ⟨by decide,2000,?_⟩
 rw[aD,aD]
 have d:(H++[MO.list [Wd.v ⟨0,a.length,0,b.length⟩]]).length=H.length+1:=bq
 have J:H[(H++[MO.list [Wd.v ⟨0,a.length,0,b.length⟩]]).length]? =ba:=by exact rwL d (gV (vH _))
 refine while_ (QI a b ⟨s,a.length,b.length,H.length,(H++[MO.list [Wd.v ⟨0,a.length,0,b.length⟩]]).length⟩ H) (λI=>q_step X S (aI H) J (by exact rwL d ((oy _).symm):H.length≠(H++[MO.list [Wd.v ⟨0,a.length,0,b.length⟩]]).length) I ?_) aHi 2000 1000 (by decide)
  (.mk (q:=[⟨0,a.length,0,b.length⟩]) rfl ((Hx.app _ _).trans (.app _ _)) (Hx.app _ _ _ _ (aT _ _)) (aT _ _) (λv O=>?_) (λr h=>h) ?_ ?_)
 ·intro lo H1 I
  cases I with
  | @mk q m o1 o2 o3 o4 o5 o6 o7 Z d g hq u w r Y M=>
  subst d
  have T:=ie (Nat.le_zero.mp (Nat.le_trans (xB q) Y))
  subst T
  refine kch (g_6 X) (Lf.mk (d9 u) ⟨P m (r m .nil),?_⟩)
  rw[g_6n,rN]
  have x:=aP u (.list ((isort T3.i m).map T3.v))
  have j:=g.set (m:=.list ((isort T3.i m).map T3.v)) J
  revert x j
  generalize H1.set _ (.list ((isort T3.i m).map T3.v))=c
  intro x j
  refine kch (g_9 X) ⟨⟨_,aL (Hx.app _ _ _ _ x)⟩,_,gC (NI ⟨s,a.length,b.length,H.length,_⟩ c.length c (nad ⟨0,0,0⟩ (isort T3.i m))) (λI=>?_) (λI=>?_) (λI L=>n_step (aI c) I L) ((isort T3.i m).map T3.v) 0 rfl
   (.mk rfl rfl (.app _ _) (aT _ _) rfl (by rw[ky,Nat.zero_add];exact (by exact rwL ((dR T3.i m).length_eq) M:(isort T3.i m).length<=1000)))⟩
  ·cases I with
   |mk d E g=>exact aL (g _ _ x)
  ·cases I with
   | @mk p1 p2 p3 p4 p5 p6 p7 p8 u1 u2 u3 t acc l d E g W e n=>
   subst d
   cases ox.mp E.symm
   refine g_1011 X W (by exact A193 (rwR ky n)) e λ{F} y D=>kch (g_12 X) ⟨⟨_,aL D⟩,_,zJ D (aI F) ?_ (λ{H7} U N=>?_) _ [] (nu _) (.app _ _) (aT _ _)⟩
   ·have:(nad t []).length<=1:=by
     rw[zC];split
     ·exact jw 1
     ·exact Nat.le_refl 1
    exact rwL bq (rwL gu (A194 n this (by rw[<-e,bq]:(nad ⟨0,0,0⟩ (isort T3.i m)).length=acc.length+(nad t []).length)))
   ·have B:=(j.trans (y.hx g (aI c))).trans U
    have A:=B _ _ S.o
    have p:F.length≠s:=λz=>by
     have:=(j.trans (y.hx g (aI c))) _ _ S.o
     rw[<-z,aI]at this;cases this
    refine St.mk A (At.mk (aP A _) ⋯ (k (λj m n e=>aM (B _ _ e) n) ((j.trans (y.hx g (aI c))).fresh) p (aP A _) (aM N p.symm) ⟨m,(r m .nil),rfl⟩))
 ·cases dv.mp O
  exact⟨c4 _,fz _,c4 _,c4 _,fz _,c4 _⟩
 ·exact((by exact λ{m}=>zzM 0x44dfa3d03d07da00f68a040440be000006a3d07da00007 [m] ⋯:∀{m:Nat},m<200->(2:Nat)*Int.toNat (((m:Nat):Int)-(0:Int))+(1:Nat)+(0:Nat)<=(1000:Nat)) al:2*((a.length:Int)-0).toNat+1+0<=1000)
 ·exact((by exact λ{m}=>zzM 0x1137e8f40f41f6803da28101102f80000f40006a3d07da00007 [m] ⋯:∀{m:Nat},m<200->(0:Nat)+((2:Nat)*Int.toNat (((m:Nat):Int)-(0:Int))+(1:Nat)+(0:Nat))<=(1000:Nat)) al:0+(2*((a.length:Int)-0).toNat+1+0)<=1000)
def Tg.s:Tg->Str | .rep=> "replace" | .del=> "delete" | .ins=> "insert" | .eq=> "equal"
def Op.v(o:Op):V:=.tup [.str o.tag.s,.int o.i1,.int o.i2,.int o.j1,.int o.j2]
def oL(s ans:Nat)(i j:Int)(u1 u2 u3 u4:bc V):Lo:=look [("self",am (.ref s)),("i",am (.int i)),("j",am (.int j)),("answer",am (.ref ans)),("ai",u1),("bj",u2),("size",u3),("tag",u4)]
def oX(s ans:Nat)(i j:Int)(t:T3)(u4:bc V):Lo:=oL s ans i j (am (.int t.i)) (am (.int t.j)) (am (.int t.k)) u4
def oT:AF:=cM 3 (asC (aN "ai") (asC (aN "bj") (asC (aN "size") asN)))
def oBR(R:SF):SF:=aB (aV "tag" (eK (.str ""))) (aB (sIf (bC (tE (aA oLt (eN "i") (eN "ai"))) (bC (tE (aA oLt (eN "j") (eN "bj"))) (tK be))) (aB (aV "tag" (eK (.str "replace"))) (sK .next)) (aB (sIf (tE (aA oLt (eN "i") (eN "ai"))) (aB (aV "tag" (eK (.str "delete"))) (sK .next)) (aB (sIf (tE (aA oLt (eN "j") (eN "bj"))) (aB (aV "tag" (eK (.str "insert"))) (sK .next)) (sK .next)) (sK .next))) (sK .next))) R)
def oB:SF:=oBR oR
theorem oT_i(q:oB (oX s ans i j t u4) H K):oT t.v (oL s ans i j u1 u2 u3 u4) H λlo1 H1=>oB lo1 H1 K:=by
 refine kch (B:=(3=3/\oB (upd (upd (upd (oL s ans i j u1 u2 u3 u4) "ai" (.int t.i)) "bj" (.int t.j)) "size" (.int t.k)) H K)) ⋯ ⟨rfl,?_⟩
 delta oL
 rw[aD,aD,aD]
 exact q
theorem aDr(q:oR (oX s ans i j t (am (.str y))) H K):oR (upd (upd (oX s ans i j t u4) "tag" (.str x)) "tag" (.str y)) H K:=by
 unfold oX oL
 rw[aD,aD]
 exact q
theorem oB_nf(R:SF):oBR R (oX s ans i j t u4) H K=(bif decide (i<t.i) then bif decide (j<t.j) then R (upd (upd (oX s ans i j t u4) "tag" (.str "")) "tag" (.str "replace")) H K else(bif decide (i<t.i) then R (upd (upd (oX s ans i j t u4) "tag" (.str "")) "tag" (.str "delete")) H K else bif decide (j<t.j) then R (upd (upd (oX s ans i j t u4) "tag" (.str "")) "tag" (.str "insert")) H K else R (upd (oX s ans i j t u4) "tag" (.str "")) H K) else(bif decide (i<t.i) then R (upd (upd (oX s ans i j t u4) "tag" (.str "")) "tag" (.str "delete")) H K else bif decide (j<t.j) then R (upd (upd (oX s ans i j t u4) "tag" (.str "")) "tag" (.str "insert")) H K else R (upd (oX s ans i j t u4) "tag" (.str "")) H K)):=by kernel_rfl
theorem t_rep:Str.ofString "replace" =Tg.s .rep:=rfl
theorem t_del:Str.ofString "delete" =Tg.s .del:=rfl
theorem t_ins:Str.ofString "insert" =Tg.s .ins:=rfl
theorem oR_0:oR (oX s ans i j t (am (.str ""))) H K=oR2 (oX s ans i j t (am (.str ""))) H K:=by kernel_rfl
theorem oR_1(g:Tg):oR (oX s ans i j t (am (.str g.s))) H K=oP1 (oX s ans i j t (am (.str g.s))) H (bW oR2 K):=by cases g<;>kernel_rfl
theorem oR2_i(q:oR3 (oX s ans (t.i+t.k) (t.j+t.k) t u4) H K):oR2 (oX s ans i j t u4) H K:=by
 refine kch (B:=(2<100/\2=2/\oR3 (upd (upd (oX s ans i j t u4) "j" (.int (t.j+t.k))) "i" (.int (t.i+t.k))) H K)) ⋯ ⟨by decide,rfl,?_⟩
 unfold oX oL
 rw[aD,aD]
 exact q
theorem oR3_nf:oR3 (oX s ans i j t u4) H K=(bif t.k != 0 then oP2 (oX s ans i j t u4) H (bW (sK .next) K) else K .next (oX s ans i j t u4) H):=by kernel_rfl
theorem oR2_k(h:H[ans]? =am (.list (acc.map Op.v)))(a:acc.length<1000000)(k:∀ {H'},Ex H H' ans->H'[ans]? =am (.list ((acc++if t.k=0 then [] else [Op.mk .eq t.i (t.i+t.k) t.j (t.j+t.k)]).map Op.v))->K .next (oX s ans (t.i+t.k) (t.j+t.k) t u4) H'):oR2 (oX s ans i j t u4) H K:=by
 refine oR2_i (kch oR3_nf ?_)
 by_cases q:t.k=0
 ·rw[ca q,gz]at k
  rw[show (t.k != 0)=false from by rw[q];rfl]
  exact b8 (k (λb b b e=>e) h)
 ·rw[bz q,bI]at k
  rw[show (t.k != 0)=be from vu.mpr q]
  exact b7 ((by
   intro H K s ans i j u4 t vs h a k
   delta oP2
   exact aK (jJ ⋯ (λH Q q=>kch (B:=(5<100/\Q (Op.v ⟨.eq,t.i,i,t.j,j⟩) H)) ⋯ ⟨by decide,q⟩) h a k):∀{H:MH}{K:SK}{s:Nat}{ans:Nat}{i:Int}{j:Int}{u4:bc V}{t:T3}{vs:aq V}(h:H[ans]? =am (.list vs))(a:vs.length<1000000)(k:K .next (oX s ans i j t u4) (H.set ans (.list (vs++[Op.v ⟨.eq,t.i,i,t.j,j⟩])))),oP2 (oX s ans i j t u4) H K) h (by rw[bg];exact a) (k .set (aP h _)))
theorem oR_k(g:Tg)(h:H[ans]? =am (.list (acc.map Op.v)))(a:acc.length<999999)(k:∀ {H'},Ex H H' ans->H'[ans]? =am (.list (((acc++[Op.mk g i t.i j t.j])++if t.k=0 then [] else [Op.mk .eq t.i (t.i+t.k) t.j (t.j+t.k)]).map Op.v))->K .next (oX s ans (t.i+t.k) (t.j+t.k) t (am (.str g.s))) H'):oR (oX s ans i j t (am (.str g.s))) H K:=by
 refine kch (oR_1 g) ((by
  intro H K s ans i j t x vs h a k
  delta oP1
  exact aK (jJ ⋯ (λH Q q=>kch (B:=(5<100/\Q (.tup [.str x,.int i,.int t.i,.int j,.int t.j]) H)) ⋯ ⟨by decide,q⟩) h a k):∀{H:MH}{K:SK}{s:Nat}{ans:Nat}{i:Int}{j:Int}{t:T3}{x:Str}{vs:aq V}(h:H[ans]? =am (.list vs))(a:vs.length<1000000)(k:K .next (oX s ans i j t (am (.str x))) (H.set ans (.list (vs++[.tup [.str x,.int i,.int t.i,.int j,.int t.j]])))),oP1 (oX s ans i j t (am (.str x))) H K) h (by rw[bg];exact iq a (by decide)) (oR2_k (rwL bI (aP h _)) ?_ λe h'=>k (Ex.set.trans e) h'))
 ·exact rwL bq (Nat.succ_lt_succ a)
inductive OI(s ans:Nat)(G:MH)(all:aq Op)(rest:aq V)(lo:Lo)(H:MH):Prop
 |mk {u1 u2 u3 u4:bc V}{i j:Int}{acc:aq Op}{l:aq T3} (el:lo=oL s ans i j u1 u2 u3 u4) (er:rest=l.map T3.v) (hx:Ex G H ans) (hn:H[ans]? =am (.list (acc.map Op.v)))
   (e:acc++ops i j l=all) (n:acc.length+2*l.length<=100000):OI s ans G all rest lo H
theorem aD3{r:Nat}(h:H[s]? =am m)(h':H[r]? =am m')(n:m≠m'):s≠r:=λz=>by
 subst z
 exact n (Option.some.inj (h.symm.trans h'))
theorem Ex.li(e:Ex H H' s)(h:H[s]? =am (.inst fs))(q:LI H r l):LI H' r l:=by
 refine xEA (bn.mp q) λi b q=>xEA (bn.mp q) λm a q=>bn.mpr ⟨i,b,bn.mpr ⟨m,e _ _ (aD3 h a λz=>?_) a,q⟩⟩
 subst z
 cases q
theorem SM.ex{rd:Nat}(S:SM H s ra rb rd g n fs f a b)(e:Ex H H' s)(o:H'[s]? =am (.inst c))(m:c "a" =fs "a")(l:c "b" =fs "b")(q:c "b2j" =fs "b2j")(p:c "bjunk" =fs "bjunk"):SM H' s ra rb rd g n c f a b:=⟨o,m.trans S.fa,l.trans S.fb,q.trans S.fd,p.trans S.fj,e.li S.o S.ia,e.li S.o S.ib,e _ _ (aD3 S.o S.d nofun) S.d,e _ _ (aD3 S.o S.j nofun) S.j,λv=>(S.bj v).imp_right fun⟨r,js,h,i,k⟩=>⟨r,js,h,e.li S.o i,k⟩,S.al,S.bl⟩
def oN(s i j ans:bc V):Nv:=[("self",s),("i",i),("j",j),("answer",ans),("ai",ba),("bj",ba),("size",ba),("tag",ba)]
def oR5:SF:=aB (i7 X) (sK .next)
def oR4:SF:=aB (i8 X) (oR5 X)
def oRA(R:SF):SF:=aB (jA X) (aB (i9 X) R)
theorem y7:aZ X [.ref s] H Q=(1=1/\At s "opcodes" H λv=>Lp (oIs not v .none H) λv H1=>Lf (tr v H1) λb=>bif b then At s "opcodes" H1 λv=>Q v H1 else oRA X (oR4 X) (loB ["self"] [.ref s] lo0) H1 (kK Q)):=by kernel_rfl
def fsO(fs:Str->bc V)(ans r:Nat):Str->bc V:=fput (fput fs "opcodes" (.ref ans)) "matching_blocks" (.ref r)
theorem Run.okSort(h:Run a b [⟨0,a.length,0,b.length⟩] [] r)(rl:r.length<64):okSort (r.map T3.v):=by
 exact⟨λv c=>(xEA (nq.mp c) λt q e=>e▸rfl),r7.mpr h.sorted.1,by rw[bg];exact rl⟩
theorem Blocks.len(h:Blocks a b l)(al:a.length<200):l.length<=1000:=by
 refine xEA h λr c d=>?_
 have:=sP (isort T3.i r) ⟨0,0,0⟩
 rw[(dR T3.i r).length_eq]at this
 have:=c.len
 rw[d,bq,gu]
 omega
def Ops(a b:aq Int)(l:aq Op):Prop:=∃ bl,Blocks a b bl/\l=ops 0 0 bl
theorem Ops.uniq(h:Ops a b l)(h':Ops a b l'):l=l':=by
 refine xEA h λr d e=>xEA h' λr' f c=>?_
 rw[e,c,d.uniq f]
theorem Ops.cod(h:Ops a b l):Cod a b ba 0 0 l:=by
 refine xEA h λbl c d=>?_;clear h;obtain⟨r,f,rfl⟩:=c;subst d
 exact((by
  intro a b l h
  cases h with
  |nil=>exact .nil
  | @cons i j t l f g X h=>
   rw[zD]
   by_cases q:(0:Int)+0=t.i/\(0:Int)+0=t.j
   ·rw[ca q]
    have e:(⟨0,0,0+t.k⟩:T3)=t:=by
     cases t
     cases q.1;cases q.2
     rw[kj];rfl
    exact rwL e (lI h X f g nofun)
   ·rw[bz q]
    exact lI h X f g nofun:∀{a b:aq Int}{l:aq T3}(h:CH a b 0 0 l),NA a b false 0 0 (nad ⟨0,0,0⟩ l)) f.sorted.2).cod (fz _) (fz _)
theorem pW{rd:Nat}(S:SM H s ra rb rd J n fs f a b)(G:fs "matching_blocks" =am .none)(F:fs "opcodes" =am .none)(al:a.length<200)(rl:∀ r,Run a b [⟨0,a.length,0,b.length⟩] [] r->r.length<64)(k:∀ {H' r l},Ex H H' s->H.length≠s->H'[s]? =am (.inst (fsO fs H.length r))->H'[H.length]? =am (.list (l.map Op.v))->Ops a b l->Q (.ref H.length) H'):aZ X [.ref s] H Q:=(by
 intro C H a b X s ra rb rd J n fs f Q S G F al T E k
 refine kch (y7 X) ⟨rfl,At.mk S.o F (Lp.mk rfl (Lf.mk rfl (b8 ?_)))⟩
 rw[(by
  intro s
  rw[<-fW (oN ba ba ba ba) ⋯]
  show upd _ "self" (.ref s)=_
  rw[aD];kernel_rfl:∀{s:Nat},loB ["self"] [.ref s] lo0=look (oN (am (.ref s)) ba ba ba))]
 have O:=Hx.app H [MO.list []]
 have ns:=cV S.o
 refine kch ((by intro C H X R s K;kernel_rfl:∀{C:Cx}{H:MH}(X:XX C)(R:SF){s:Nat}{K:SK},oRA X R (look (oN (am (.ref s)) ba ba ba)) H K=(St s "opcodes" (.ref H.length) (H++[.list []]) λH2=>R (upd (upd (upd (look (oN (am (.ref s)) ba ba ba)) "i" (.int 0)) "j" (.int 0)) "answer" (.ref H.length)) H2 K)) X (oR4 X)) (St.mk (O _ _ S.o) ?_)
 rw[aD,aD,aD]
 have s2:=aP (O _ _ S.o) (.inst (fput fs "opcodes" (.ref H.length)))
 have w:Ex H ((H++[MO.list []]).set s (.inst (fput fs "opcodes" (.ref H.length)))) s:=λj m n e=>aM (O _ _ e) n
 refine kch ((by intro C H X s c K;kernel_rfl:∀{C:Cx}{H:MH}(X:XX C){s c:Nat}{K:SK},oR4 X (oL s c 0 0 ba ba ba ba) H K=((∃ ff,H[s]? =am (.inst ff))/\bO X [.ref s] H λv H2=>Lf v.rf λi=>(∃ vs,lst H2 (.ref i)=am vs)/\∃ n,dK (bB C) oT oB n (i,0) (oL s c 0 0 ba ba ba ba) H2 (bW (oR5 X) K))) X) ⟨⟨_,s2⟩,gmb_ok X (S.ex w s2 ⋯ ⋯ ⋯ ⋯) (kch ⋯ G) al T λ{H3 r g} A U rs s3 W B=>Lf.mk rfl ⟨⟨_,aL W⟩,_,gC (OI s H.length H3 (ops 0 0 g)) (λI=>?_) (λI=>?_) (λI Y=>(by
  cases I with
  | @mk u1 u2 u3 M i j acc l L N y P e n=>
  refine bM (List.map_eq_cons_iff.mp N.symm) λx l' e1 w A=>?_
  subst e1 w A L
  rw[ea]at n
  rw[ops_c]at e
  refine oT_i ((by
   intro H K s c i j M t acc h D k
   refine kch (oB_nf oR) ?_
   unfold gap at k
   by_cases p:i<t.i
   ·by_cases d:j<t.j
    ·rw[ca p,ca d,<-dt]at k
     rw[bm p,bm d]
     exact rwL t_rep (b7 (b7 (aDr (oR_k .rep h D k))))
    ·rw[ca p,bz d,<-dt]at k
     rw[bm p,bp d]
     exact rwL t_del (b7 (b8 (b7 (aDr (oR_k .del h D k)))))
   ·by_cases d:j<t.j
    ·rw[bz p,ca d,<-dt]at k
     rw[bp p,bm d]
     exact rwL t_ins (b8 (b8 (b7 (aDr (oR_k .ins h D k)))))
    ·rw[bz p,bz d,nu]at k
     rw[bp p,bp d]
     exact b8 (b8 (b8 ((by
      unfold oX oL
      rw[aD]
      exact (kch oR_0 (oR2_k h (iq D (by decide)) k)))))):∀{H:MH}{K:SK}{s:Nat}{c:Nat}{i:Int}{j:Int}{M:bc V}{t:T3}{acc:aq Op}(h:H[c]? =am (.list (acc.map Op.v)))(D:acc.length<999999)(k:∀ {H' u},Ex H H' c->H'[c]? =am (.list ((acc++(gap i j t.i t.j++if t.k=0 then [] else [Op.mk .eq t.i (t.i+t.k) t.j (t.j+t.k)])).map Op.v))->K .next (oX s c (t.i+t.k) (t.j+t.k) t u) H'),oB (oX s c i j t M) H K) P (zzM1 0x15ec31ffd07da0000387583d07da400bea00007 [acc.length,l'.length] ⋯ n) (λ{H' u} e' h'=>Y.nx (.mk rfl rfl (y.trans e') h' ?_ ?_)))
  ·rw[dt,dt];exact e
  ·have g1:(gap i j x.i x.j).length<=1:=by
    delta gap
    split<;>split<;>first |exact Nat.le_refl 1 |exact jw 1
   have g2:(if x.k=0 then [] else [(⟨.eq,x.i,x.i+x.k,x.j,x.j+x.k⟩:Op)]).length<=1:=by
    split
    ·exact jw 1
    ·exact Nat.le_refl 1
   exact rwL bq (rwL bq (A198 n g1 g2)))) (g.map T3.v) 0 rfl
  (.mk (acc:=[]) rfl rfl (λ_ _ _ e=>e) (A _ _ ns.symm (aM (aT _ _) ns.symm)) rfl (by exact rwL ky (zzM1 0xb0e1d60f680be03d0007e8f68007 [g.length] ⋯ (E g B))))⟩⟩
 ·cases I with
  |mk L N y=>exact aL (y _ _ (λz=>by rw[<-z,(aM (aT _ _) ns.symm)]at U;exact cyM U) W)
 ·cases I with
  | @mk u1 u2 u3 M i j acc l L N y P e n=>
  subst L
  cases ox.mp N.symm
  rw[(by exact λi j=>rfl:∀(i j:Int),ops i j []= []),gz]at e
  subst e
  exact kch (by kernel_rfl) (k (λj m q h=>y _ _ (λz=>by rw[<-z,aI]at h;cases h) (A _ _ q (w _ _ q h))) ns (y _ _ ns s3) P B):∀{C:Cx}{H:MH}{a:aq Int}{b:aq Int}(X:XX C){s ra rb rd J n:Nat}{fs:Str->bc V}{f:Int->bc V}{Q:EK}(S:SM H s ra rb rd J n fs f a b)(G:fs "matching_blocks" =am .none)(F:fs "opcodes" =am .none)(al:a.length<200)(T:∀ r,Run a b [⟨0,a.length,0,b.length⟩] [] r->okSort (r.map T3.v))(E:∀ g,Blocks a b g->g.length<=1000)(k:∀ {H' r g},Ex H H' s->H.length≠s->H'[s]? =am (.inst (fsO fs H.length r))->H'[H.length]? =am (.list ((ops 0 0 g).map Op.v))->Blocks a b g->Q (.ref H.length) H'),aZ X [.ref s] H Q) X S G F al (λr h=>h.okSort (rl r h)) (λbl h=>h.len al) (λe1 w A Z B=>k e1 w A Z ⟨_,B,rfl⟩)
def Tg.isEq:Tg->ec | .eq=>be |_=>false
def Op.hd(o:Op)(n:Int):Op:=⟨o.tag,o.i1,min o.i2 (o.i1+n),o.j1,min o.j2 (o.j1+n)⟩
def Op.tl(o:Op)(n:Int):Op:=⟨o.tag,max o.i1 (o.i2-n),o.i2,max o.j1 (o.j2-n),o.j2⟩
def q7(n:Int)(o:Op):ec:=o.tag.isEq && decide (o.i2-o.i1>n+n)
def kB(cur:aq Op):ec:=match cur with | []=>false | [o]=> !o.tag.isEq |_=>be
def grps(n:Int)(cur:aq Op):aq Op->aq (aq Op)
 | []=>bif kB cur then [cur] else []
 |o::l=>bif q7 n o then(cur++[o.hd n])::grps n [o.tl n] l else grps n (cur++[o]) l
theorem aFb(n:Int)(cur:aq Op):grps n cur []=bif kB cur then [cur] else []:=rfl
theorem jR(n:Int)(cur:aq Op)(o:Op)(l:aq Op):grps n cur (o::l)=bif q7 n o then(cur++[o.hd n])::grps n [o.tl n] l else grps n (cur++[o]) l:=rfl
def tI(n:Int):aq Op->aq Op
 | []=>[]
 |o::l=>(bif o.tag.isEq then o.tl n else o)::l
def g6(n:Int):aq Op->aq Op
 | []=>[]
 | [o]=>[bif o.tag.isEq then o.hd n else o]
 |o::l=>o::g6 n l
def iQ:aq Op->aq Op
 | []=>[⟨.eq,0,1,0,1⟩]
 |l=>l
def groups(n:Int)(l:aq Op):aq (aq Op):=grps n [] (g6 n (tI n (iQ l)))
def kL(s:Nat)(n:Int)(cd:Nat)(gr:Nat)(u1 u2 u3 u4 u5:bc V):Lo:=look [("self",am (.ref s)),("n",am (.int n)),("codes",am (.ref cd)),("nn",am (.int (n+n))),("group",am (.ref gr)),("tag",u1),("i1",u2),("i2",u3),("j1",u4),("j2",u5)]
def kX(s:Nat)(n:Int)(cd gr:Nat)(o:Op):Lo:=kL s n cd gr (am (.str o.tag.s)) (am (.int o.i1)) (am (.int o.i2)) (am (.int o.j1)) (am (.int o.j2))
theorem gtgt_i(q:R (kX s n cd gr o) H):aFg X o.v (kL s n cd gr u1 u2 u3 u4 u5) H R:=by
 refine kch (B:=(5=5/\R (upd (upd (upd (upd (upd (kL s n cd gr u1 u2 u3 u4 u5) "tag" (.str o.tag.s)) "i1" (.int o.i1)) "i2" (.int o.i2)) "j1" (.int o.j1)) "j2" (.int o.j2)) H)) ⋯ ⟨rfl,?_⟩
 delta kL
 rw[aD,aD,aD,aD,aD]
 exact q
theorem oV(H:MH)(g:Tg):eqv H (.str g.s) (.str "equal")=am g.isEq:=by cases g<;>kernel_rfl
theorem gfc_i(q:P (q7 n o) H):g_fc X (kX s n cd gr o) H P:=by
 refine kch (B:=(Lp (aX id (.str o.tag.s) (.str "equal") H) λv H1=>Lf (tr v H1) λt=>bif t then(bif decide (o.i2-o.i1>n+n) then P be H1 else P false H1) else P false H1)) ⋯
  (Lp.mk (by delta aX;rw[oV];rfl) (Lf.mk rfl ?_))
 unfold q7 at q
 cases e:o.tag.isEq with
 |false=>rw[e]at q;exact q
 |true=>
  rw[e,Bool.true_and]at q
  cases a:decide (o.i2-o.i1>n+n) with
  |false=>rw[a]at q;exact q
  |true=>rw[a]at q;exact q
theorem gf3_i(h:H[gr]? =am (.list vs))(a:vs.length<1000000)(k:K .next (kX s n cd gr o) (H.set gr (.list (vs++[o.v])))):g_f3 X (kX s n cd gr o) H K:=jJ ⋯ (λH Q q=>kch (B:=(5<100/\Q o.v H)) ⋯ ⟨by decide,q⟩) h a k
theorem gf2_i(k:K .next (kX s n cd H.length (o.tl n)) (H++[.list []])):g_f2 X (kX s n cd gr o) H K:=by
 refine kch (B:=(2<100/\2=2/\K .next (upd (upd (upd (kX s n cd gr o) "group" (.ref H.length)) "j1" (.int (max o.j1 (o.j2-n)))) "i1" (.int (max o.i1 (o.i2-n)))) (H++[.list []]))) ⋯ ⟨by decide,rfl,?_⟩
 unfold kX kL
 rw[aD,aD,aD]
 exact k
theorem aIx:zX X (kL s n cd gr u1 u2 u3 u4 u5) H P=(Lf (tr (.ref gr) H) λt=>bif t then Lp ((lst H (.ref gr)).bind λxs=>if xs.length<1000000 then am (.int xs.length,H) else ba) λm H1=>Lp (aX id m (.int 1) H1) λv b=>Lf (tr v b) λt=>bif t then (Lp (aG (.ref gr) (.int 0) b) λv c=>Lp (aG v (.int 0) c) λv d=>Lp (aX id v (.str "equal") d) λv a=>Lf (tr v a) λt=>bif t then(bif !true then P be a else P false a) else(bif !false then P be a else P false a)) else(bif !false then P be b else P false b) else P false H):=by kernel_rfl
theorem gfc2_i(h:H[gr]? =am (.list (cur.map Op.v)))(c:cur.length<1000000)(q:P (kB cur) H):zX X (kL s n cd gr u1 u2 u3 u4 u5) H P:=by
 have b:(cur.map Op.v).length<1000000:=by rw[bg];exact c
 refine kch (aIx X) (Lf.mk (sD h b) ?_)
 have a:((lst H (.ref gr)).bind λxs=>if xs.length<1000000 then am (V.int xs.length,H) else ba)=am (.int (cur.map Op.v).length,H):=by
  exact rwL (aL h) (ca b)
 match cur,h,a,q with
 | [],h,a,q=>exact q
 | [o],h,a,q=>
  refine b7 (Lp.mk a (Lp.mk (v:=.bool be) (H:=H) ⋯ (Lf.mk rfl (b7 (Lp.mk (v:=o.v) (H:=H) ?_ (Lp.mk rfl (Lp.mk (v:=.bool o.tag.isEq) (H:=H) ?_ (Lf.mk rfl ?_))))))))
  ·show((lst H (.ref gr)).bind (at_ 0)).map _=_
   rw[aL h];rfl
  ·delta aX;rw[oV];rfl
  ·have q:P (!o.tag.isEq) H:=q
   cases e:o.tag.isEq with
   |false=>rw[e]at q;exact q
   |true=>rw[e]at q;exact q
 |o::o2::l,h,a,q=>
  refine b7 (Lp.mk a (Lp.mk (v:=.bool false) ?_ (Lf.mk rfl (b8 (b7 q)))))
  have e:(((o::o2::l).map Op.v).length:Int)≠1:=by rw[bg,ea,ea];exact (zzM0 0x1a01f6807d07da000040c4 [l.length] ⋯)
  delta aX
  rw[(by intro H x y;kernel_rfl:∀(H:MH)(x y:Int),eqv H (.int x) (.int y)=am (decide (x=y))),bp e];rfl
def Ex2(H H':MH)(i i':Nat):Prop:=∀ (j:Nat) (m:MO),i≠j->i'≠j->H[j]? =am m->H'[j]? =am m
theorem Ex2.trans{H1 b:MH}{a:Nat}(h:Ex2 H H1 i a)(h':Ex2 H1 b i a):Ex2 H b i a:=λj m n c e=>h' j m n c (h j m n c e)
theorem Ex2.set{a:Nat}:Ex2 H ((H.set i m).set a m') i a:=λj x n b e=>aM (aM e n) b
theorem Ex2.set1{a:Nat}:Ex2 H (H.set i m) i a:=λj x n b e=>aM e n
theorem iv_of{i:Nat}(h:H[i]? =am (.itr (am p))):H[i]?.bind MO.iv=am p:=by rw[h];rfl
structure OutK(s:Nat)(n:Int)(cd it gr:Nat)(all:aq Op)(p0:Nat)(H:MH)(gs:aq (aq Op))(Q:l8->MH->Prop):Prop where
 yl:∀ {H' o p g},Ex2 H H' it gr->H'[it]? =am (.itr (am (cd,p)))->H'[gr]? =am (.list (g.map Op.v))->gs=g::grps n [o.tl n] (all.drop p)->p0<p->p<=all.length->Q (.yl it (kX s n cd gr o) (.ref gr)) H'
 yr:∀ {H' lo g},Ex2 H H' it gr->H'[gr]? =am (.list (g.map Op.v))->gs= [g]->(∃ m,H'[it]? =am m)->Q (.yr lo (.ref gr)) H'
 dn:∀ {H'},Ex2 H H' it gr->gs= []->Q .done H'
theorem sW{p0:Nat}(x:it≠cd)(gi:it≠gr)(y:gr≠cd):∀ (a:aq Op){cur:aq Op}{p:Nat}{H:MH}{u1 u2 u3 u4 u5:bc V}, p0<=p->c.drop p=a->H[cd]? =am (.list (c.map Op.v))->H[it]? =am (.itr (am (cd,p)))->H[gr]? =am (.list (cur.map Op.v))->cur.length+a.length<=1000->OutK s n cd it gr c p0 H (grps n cur a) Q-> (gfn X).loopN (a.length+1) it (kL s n cd gr u1 u2 u3 u4 u5) H Q:=λl=>by
 induction l with
 |nil=>
  intro cur p H u1 u2 u3 u4 u5 u m r j t d K
  refine Lf.mk (iv_of j) (Lf.mk (aL r) ?_)
  rw[gV (by rw[bg];exact nN.mp m)]
  have b:=aM (m':=.itr ba) t gi
  refine gfc2_i X b (by exact A205 (rwR ky d)) ?_
  cases e:kB cur with
  |false=>exact b8 (K.dn .set1 (by rw[aFb,e];rfl))
  |true=>exact b7 (kch (B:=Q (.yr (kL s n cd gr u1 u2 u3 u4 u5) (.ref gr)) (H.set it (.itr ba))) ⋯ (K.yr .set1 b (by rw[aFb,e];rfl) ⟨_,aP j _⟩))
 |cons o a z=>
  intro cur p H u1 u2 u3 u4 u5 u m r j t d K
  have w:c[p]? =am o:=by rw[<-uc,m];rfl
  have i:c.drop (p+1)=a:=by rw[<-tq,m];rfl
  rw[ea]at d
  have cl:(cur.map Op.v).length<1000000:=by rw[bg];exact A191 d
  refine Lf.mk (iv_of j) (Lf.mk (aL r) ?_)
  rw[gh,w]
  have b:=aM (m':=.itr (am (cd,p+1))) t gi
  have f:=aP j (.itr (am (cd,p+1)))
  refine gtgt_i X (gfc_i X ?_)
  cases e:q7 n o with
  |true=>
   refine b7 ((by exact λ{C H K s cd gr n o} X {vs} h d k=>jJ ⋯ (λH Q q=>kch (B:=(5<100/\Q (o.hd n).v H)) ⋯ ⟨by decide,q⟩) h d k:∀{C:Cx}{H:MH}{K:SK}{s:Nat}{cd:Nat}{gr:Nat}{n:Int}{o:Op}(X:XX C){vs:aq V}(h:H[gr]? =am (.list vs))(d:vs.length<1000000)(k:K .next (kX s n cd gr o) (H.set gr (.list (vs++[(o.hd n).v])))),g_f1 X (kX s n cd gr o) H K) X b cl (kch (B:=Q (.yl it (kX s n cd gr o) (.ref gr)) ((H.set it (.itr (am (cd,p+1)))).set gr (.list (cur.map Op.v++[(o.hd n).v])))) ⋯ (K.yl (g:=cur++[o.hd n]) .set (aM f gi.symm) (rwL bI (aP b _)) ?_ (Nat.lt_succ_of_le u) ((List.getElem?_eq_some_iff.mp w).1))))
   ·rw[jR,e,i];rfl
  |false=>
   refine b8 (gf3_i X b cl (z (cur:=cur++[o]) (pi u) i (aM (aM r x) y) (aM f gi.symm) (rwL bI (aP b _)) ?_ ?_))
   ·exact rwL bq (rwL gu (A192 d))
   ·have A:grps n (cur++[o]) a=grps n cur (o::a):=by rw[jR,e];rfl
    exact rwL A ⟨λe1=>K.yl (Ex2.set.trans e1),λe1=>K.yr (Ex2.set.trans e1),λe1=>K.dn (Ex2.set.trans e1)⟩
theorem zS{i:Nat}(h:H[i]? =am (.gen g)):H[i]?.bind MO.gn=am g:=by rw[h];rfl
def Hp(B:Nat->bc MO)(H:MH):Prop:=∀ (i:Nat) (m:MO),B i=am m->H[i]? =am m
theorem Hp.hx{H1:MH}(h:Hp B H)(x:Hx H H1):Hp B H1:=λi m e=>x _ _ (h i m e)
theorem Hp.set(h:Hp B H)(n:B i=ba):Hp B (H.set i m):=λj x e=>aM (h j x e) λq=>aE (n.symm.trans (q▸e))
theorem Hp.fresh(h:Hp B H):B H.length=ba:=by
 cases e:B H.length with
 |none=>rfl
 |some m=>exact aE ((aI H).symm.trans (h _ _ e))
theorem Ex2.hx{b:Nat}(h:Ex2 H H' i b)(x:Hp G H)(c:G i=ba)(a:G b=ba):Hp G H':=λj m e=>
 h j m (λz=>by rw[z,e]at c;exact cyM c) (λz=>by rw[z,e]at a;exact cyM a) (x j m e)
def kP(s:Nat)(n:Int)(cd nn gr u1 u2 u3 u4 u5:bc V):Lo:=look [("self",am (.ref s)),("n",am (.int n)),("codes",cd),("nn",nn),("group",gr),("tag",u1),("i1",u2),("i2",u3),("j1",u4),("j2",u5)]
theorem kP_0:loB ["self","n"] [.ref s,.int n] lo0=kP s n ba ba ba ba ba ba ba ba:=by
 rw[<-fW [("self",ba),("n",ba),("codes",ba),("nn",ba),("group",ba),("tag",ba),("i1",ba),("i2",ba),("j1",ba),("j2",ba)] ⋯]
 show upd (upd (look _) "self" (.ref s)) "n" (.int n)=_
 rw[aD,aD];kernel_rfl
def pT:AF:=cM 5 (asC (aN "tag") (asC (aN "i1") (asC (aN "i2") (asC (aN "j1") (asC (aN "j2") asN)))))
theorem gp_1(R:SF):aB (zV X) (aB (zU X) R) (kP s n ba ba ba u1 u2 u3 u4 u5) H K=((∃ a,H[s]? =am (.inst a))/\aZ X [.ref s] H λv H1=>R (upd (kP s n ba ba ba u1 u2 u3 u4 u5) "codes" v) H1 K):=by kernel_rfl
theorem gp_2(R:SF):aB (oQ X) R (kP s n (am (.ref cd)) ba ba u1 u2 u3 u4 u5) H K=(Lf (tr (.ref cd) H) λt=>bif !t then(5<100/\R (upd (kP s n (am (.ref cd)) ba ba u1 u2 u3 u4 u5) "codes" (.ref H.length)) (H++[.list [Op.v ⟨.eq,0,1,0,1⟩]]) K) else R (kP s n (am (.ref cd)) ba ba u1 u2 u3 u4 u5) H K):=by kernel_rfl
def pA(R:SF):SF:=aB (dF (bH (esC (eN "tag") (esC (aJ q6 (esC (eN "i1") (esC (aA bL (eN "i2") (eN "n")) esN))) (esC (eN "i2") (esC (aJ q6 (esC (eN "j1") (esC (aA bL (eN "j2") (eN "n")) esN))) (esC (eN "j2") esN)))))) (uG (eN "codes") (eK (.int 0)))) R
def pZ(R:SF):SF:=aB (dF (bH (esC (eN "tag") (esC (eN "i1") (esC (aJ yH (esC (eN "i2") (esC (aA aH (eN "i1") (eN "n")) esN))) (esC (eN "j1") (esC (aJ yH (esC (eN "j2") (esC (aA aH (eN "j1") (eN "n")) esN))) esN)))))) (uG (eN "codes") (cS (eK (.int 1))))) R
theorem gp_3(R:SF):aB (oP X) R (kP s n (am (.ref cd)) ba ba u1 u2 u3 u4 u5) H K=(Lp (aG (.ref cd) (.int 0) H) λv H1=>Lp (aG v (.int 0) H1) λw H2=>Lp (aX id w (.str "equal") H2) λe H3=>Lf (tr e H3) λt=> bif t then(Lp (aG (.ref cd) (.int 0) H3) λv H4=>pT v (kP s n (am (.ref cd)) ba ba u1 u2 u3 u4 u5) H4 λlo1 H5=>pA (sK .next) lo1 H5 (bW R K)) else R (kP s n (am (.ref cd)) ba ba u1 u2 u3 u4 u5) H3 K):=by kernel_rfl
theorem gp_4(R:SF):aB (oO X) R (kP s n (am (.ref cd)) ba ba u1 u2 u3 u4 u5) H K=(Lp (aG (.ref cd) (.int (-1)) H) λv H1=>Lp (aG v (.int 0) H1) λw H2=>Lp (aX id w (.str "equal") H2) λe H3=>Lf (tr e H3) λt=> bif t then(Lp (aG (.ref cd) (.int (-1)) H3) λv H4=>pT v (kP s n (am (.ref cd)) ba ba u1 u2 u3 u4 u5) H4 λlo1 H5=>pZ (sK .next) lo1 H5 (bW R K)) else R (kP s n (am (.ref cd)) ba ba u1 u2 u3 u4 u5) H3 K):=by kernel_rfl
def kPX(s:Nat)(n:Int)(cd:Nat)(o:Op):Lo:=kP s n (am (.ref cd)) ba ba (am (.str o.tag.s)) (am (.int o.i1)) (am (.int o.i2)) (am (.int o.j1)) (am (.int o.j2))
theorem pT_i(q:R (kPX s n cd o) H):pT o.v (kP s n (am (.ref cd)) ba ba u1 u2 u3 u4 u5) H R:=by
 refine kch (B:=(5=5/\R (upd (upd (upd (upd (upd (kP s n (am (.ref cd)) ba ba u1 u2 u3 u4 u5) "tag" (.str o.tag.s)) "i1" (.int o.i1)) "i2" (.int o.i2)) "j1" (.int o.j1)) "j2" (.int o.j2)) H)) ⋯ ⟨rfl,?_⟩
 delta kP
 rw[aD,aD,aD,aD,aD]
 exact q
theorem gp_56:aB (tH X) (aB (tG X) (sK .next)) (kP s n (am (.ref cd)) ba ba u1 u2 u3 u4 u5) H K=K .next (upd (upd (kP s n (am (.ref cd)) ba ba u1 u2 u3 u4 u5) "nn" (.int (n+n))) "group" (.ref H.length)) (H++[.list []]):=by kernel_rfl
theorem gp_56n:upd (upd (kP s n (am (.ref cd)) ba ba u1 u2 u3 u4 u5) "nn" (.int (n+n))) "group" (.ref gr)=kL s n cd gr u1 u2 u3 u4 u5:=by
 unfold kP kL
 rw[aD,aD];kernel_rfl
theorem tC(h:H[cd]? =am (.list vs))(b: -1000000<i/\i<1000000)(e:jt i vs.length=am j)(a:vs[j]? =am v):aG (.ref cd) (.int i) H=am (v,H):=by
 show((lst H (.ref cd)).bind (at_ i)).map _=_
 rw[aL h]
 show(at_ i vs).map _=_
 delta at_
 rw[ca b,e]
 show(vs[j]?).map _=_
 rw[a];rfl
theorem wV(h:H[cd]? =am (.list vs))(b: -1000000<i/\i<1000000)(e:jt i vs.length=am j):sL (.ref cd) (.int i) v H=am (H.set cd (.list (vs.set j v))):=by
 show H[cd]?.bind (setO H cd i v)=_
 rw[h]
 show(if-1000000<i/\i<1000000 then(jt i vs.length).map λj=>H.set cd (.list (vs.set j v)) else ba)=_
 rw[ca b,e];rfl
theorem wR{o:Op}(q:Q (.str o.tag.s) H):Lp (aG o.v (.int 0) H) Q:=Lp.mk rfl q
theorem zP{g:Tg}{Q:ec->MH->Prop}(q:Q g.isEq H):Lp (aX id (.str g.s) (.str "equal") H) λe a=>Lf (tr e a) λt=>Q t a:=Lp.mk (by delta aX;rw[oV];rfl) (Lf.mk rfl q)
theorem rS(l:aq Op):tI n (o::l)=(bif o.tag.isEq then o.tl n else o)::l:=rfl
theorem gp3_i(h:H[cd]? =am (.list ((o::l).map Op.v)))(k:∀ {H' u1 u2 u3 u4 u5},Ex H H' cd->H'[cd]? =am (.list ((tI n (o::l)).map Op.v))->R (kP s n (am (.ref cd)) ba ba u1 u2 u3 u4 u5) H' K):aB (oP X) R (kP s n (am (.ref cd)) ba ba u1 u2 u3 u4 u5) H K:=by
 have b0: -1000000<(0:Int)/\(0:Int)<1000000:=by decide
 have a:=(by exact λn=>fQ (c4 0) (zzM0 0x1a01f6800407d03d002 [n] ⋯):∀(n:Nat),jt 0 (n+1)=am 0) (l.map Op.v).length
 refine kch (gp_3 X R) (Lp.mk (tC h b0 a rfl) (wR (zP ?_)))
 rw[rS]at k
 cases e:o.tag.isEq with
 |false=>rw[e]at k;exact b8 (k (λb b b q=>q) h)
 |true=>
  rw[e]at k
  exact b7 (Lp.mk (tC h b0 a rfl) (pT_i (kch ((by intro H s cd n o K R;kernel_rfl:∀{H:MH}{s:Nat}{cd:Nat}{n:Int}{o:Op}{K:SK}(R:SF),pA R (kPX s n cd o) H K=(5<100/\Lf (sL (.ref cd) (.int 0) (o.tl n).v H) λH'=>R (kPX s n cd o) H' K)) (sK .next)) ⟨by decide,Lf.mk (wV h b0 a) (k .set (aP h _))⟩)))
theorem rR:∀ l:aq Op,g6 n (l++[o])=l++[bif o.tag.isEq then o.hd n else o]
 | []=>rfl
 | [x]=>rfl
 |x::y::l=>by
  show x::g6 n (y::l++[o])=_
  rw[rR (y::l)];rfl
theorem gp4_i(h:H[cd]? =am (.list ((l++[o]).map Op.v)))(k:∀ {H' u1 u2 u3 u4 u5},Ex H H' cd->H'[cd]? =am (.list ((g6 n (l++[o])).map Op.v))->R (kP s n (am (.ref cd)) ba ba u1 u2 u3 u4 u5) H' K):aB (oO X) R (kP s n (am (.ref cd)) ba ba u1 u2 u3 u4 u5) H K:=by
 have b0: -1000000<(-1:Int)/\(-1:Int)<1000000:=by decide
 rw[bI]at h
 have b:jt (-1) (l.map Op.v++[o].map Op.v).length=am (l.map Op.v).length:=by exact rwL bq ((by
  intro n
  unfold jt
  rw[ca (by decide:(-1:Int)<0)]
  exact rwL A211 (ca (by rw[bm (fz n),bm ((zzM0 0x6807da00101f68a04002 [n] ⋯):(n:Int)<((n+1:Nat):Int))];rfl)):∀(n:Nat),jt (-1) (n+1)=am n) _)
 have a:=tC h b0 b (by rw[gM (Nat.le_refl _),pI];rfl)
 refine kch (gp_4 X R) (Lp.mk a (wR (zP ?_)))
 rw[rR]at k
 cases e:o.tag.isEq with
 |false=>rw[e,bI]at k;exact b8 (k (λc c c q=>q) h)
 |true=>
  rw[e,bI]at k
  refine b7 (Lp.mk a (pT_i (kch ((by intro H s cd n o K R;kernel_rfl:∀{H:MH}{s:Nat}{cd:Nat}{n:Int}{o:Op}{K:SK}(R:SF),pZ R (kPX s n cd o) H K=(5<100/\Lf (sL (.ref cd) (.int (-1)) (o.hd n).v H) λH'=>R (kPX s n cd o) H' K)) (sK .next)) ⟨by decide,Lf.mk (wV h b0 b) (k .set ?_)⟩)))
  have:=aP h (.list ((l.map Op.v++[o].map Op.v).set (l.map Op.v).length (o.hd n).v))
  rw[List.set_append_right _ _ (Nat.le_refl _),pI]at this ⊢
  exact this
theorem gp2_i(h:H[cd]? =am (.list (l.map Op.v)))(b:l.length<1000000)(k:∀ {H' a},Hx H H'->H'[a]? =am (.list ((iQ l).map Op.v))->(l≠ []/\a=cd)\/(l= []/\a=H.length)->R (kP s n (am (.ref a)) ba ba u1 u2 u3 u4 u5) H' K):aB (oQ X) R (kP s n (am (.ref cd)) ba ba u1 u2 u3 u4 u5) H K:=by
 refine kch (gp_2 X R) (Lf.mk (sD h (by rw[bg];exact b)) ?_)
 cases l with
 |nil=>
  refine b7 ⟨by decide,?_⟩
  unfold kP at k ⊢
  rw[aD]
  exact k (.app _ _) (aT _ _) (.inr ⟨rfl,rfl⟩)
 |cons o l=>exact b8 (k (.refl _) h (.inl ⟨nofun,rfl⟩))
theorem nG(l:aq Op):∃ o l',iQ l=o::l':=by
 cases l with
 |nil=>exact⟨_,_,rfl⟩
 |cons o l=>exact⟨o,l,rfl⟩
theorem yB(l:aq Op):(iQ l).length<=l.length+1:=by
 cases l with
 |nil=>exact Nat.le_refl 1
 |cons o l=>exact vH _
theorem gp34_i(h:H[cd]? =am (.list ((iQ l).map Op.v)))(k:∀ {H' u1 u2 u3 u4 u5},Ex H H' cd->H'[cd]? =am (.list ((g6 n (tI n (iQ l))).map Op.v))->K .next (kL s n cd H'.length u1 u2 u3 u4 u5) (H'++[.list []])):gR3 X (kP s n (am (.ref cd)) ba ba u1 u2 u3 u4 u5) H K:=by
 refine xEE (nG l) λo l' e=>xEE ((by
  intro n l
  refine xEE (nG l) λo l' e=>?_
  rw[e,rS]
  rcases List.eq_nil_or_concat ((bif o.tag.isEq then o.tl n else o)::l') with h |⟨L,x,h⟩
  ·cases h
  ·exact⟨L,x,by rw[h,List.concat_eq_append]⟩:∀(n:Int)(l:aq Op),∃ L o,tI n (iQ l)=L++[o]) n l) λL x b=>gp3_i X (rwR e h) λ{H1 u1 u2 u3 u4 u5} f a=>?_
 rw[<-e,b]at a
 exact gp4_i X a λ{g u1 u2 u3 u4 u5} c d=>kch (gp_56 X) (rwL gp_56n (k (f.trans c) (rwL b d)))
theorem vZ(n:Int):∀ l:aq Op,(g6 n l).length=l.length
 | []=>rfl
 | [x]=>rfl
 |x::y::l=>by
  show(x::g6 n (y::l)).length=_
  rw[ea,vZ n (y::l)];rfl
def qH(n:Int):aq Op->aq Op
 | []=>[]
 |o::l=>g6 n (tI n (o::l))
theorem Hx.no{r:Nat}(x:Hx B H)(h:H[r]? =ba):B[r]? =ba:=by
 cases c:B[r]? with
 |none=>rfl
 |some m=>exact aE (h.symm.trans (x _ _ c))
def eqO(i j k:Int):Op:=⟨.eq,i,i+k,j,j+k⟩
def chO(g:Tg)(i j i' j':Int):Op:=⟨g,i,i',j,j'⟩
class inductive Gk(n:Int)(a b:aq Int):aq Op->Int->Int->aq Op->aq (aq Op)->Prop
 |e0 {cur:aq Op}:Gk n a b cur a.length b.length [] [cur]
 |e1 {cur:aq Op}{i j k:Int} (p:0<k) (m:Mt a b i j k) (ei:i+k=a.length) (ej:j+k=b.length):Gk n a b cur i j [eqO i j k] [cur++[(eqO i j k).hd n]]
 |join {cur:aq Op}{i j k i' j':Int}{g:Tg}{rest:aq Op}{gs:aq (aq Op)} (p:0<k) (hk:k<=n+n) (m:Mt a b i j k) (hg:g.isEq=false) (hi:i+k<=i') (hj:j+k<=j')
   (h:Gk n a b (cur++[eqO i j k,chO g (i+k) (j+k) i' j']) i' j' rest gs):Gk n a b cur i j (eqO i j k::chO g (i+k) (j+k) i' j'::rest) gs
 |cut {cur:aq Op}{i j k i' j':Int}{g:Tg}{rest:aq Op}{gs:aq (aq Op)} (p:0<k) (hk:n+n<k) (m:Mt a b i j k) (hg:g.isEq=false) (hi:i+k<=i') (hj:j+k<=j')
   (h:Gk n a b [(eqO i j k).tl n,chO g (i+k) (j+k) i' j'] i' j' rest gs):Gk n a b cur i j (eqO i j k::chO g (i+k) (j+k) i' j'::rest) ((cur++[(eqO i j k).hd n])::gs)
theorem zA{g:Tg}(h:g≠ .eq):g.isEq=false:=by
 cases g with
 |eq=>exact bv rfl h
 |_=>rfl
theorem oU(h:o.tag.isEq=false):∀ l:aq Op,g6 n (o::l)=o::g6 n l
 | []=>by
  show [bif o.tag.isEq then o.hd n else o]= [o]
  rw[h];rfl
 |x::l=>rfl
theorem lP(h:o.tag.isEq=false)(cur l:aq Op):grps n cur (o::l)=grps n (cur++[o]) l:=by
 have:q7 n o=false:=by delta q7;rw[h];rfl
 rw[jR,this];rfl
theorem aIr(cur:aq Op)(x y:Op)(l:aq Op):kB (cur++(x::y::l))=be:=by
 cases cur with
 |nil=>rfl
 |cons z t=>cases t<;>rfl
theorem xI(h:kB cur=be)(x:Op):kB (cur++[x])=be:=by
 cases cur with
 |nil=>cases h
 |cons z t=>cases t<;>rfl
theorem yK{o:Op}(a:0<=n):q7 n (o.hd n)=false:=by
 have: ¬(min o.i2 (o.i1+n)-o.i1>n+n):=by
  exact zzI1 0xaa68aa8a80a43041f68a0000212803d087 [n,o.i2,o.i1] ⋯ a
 show(o.tag.isEq && decide (min o.i2 (o.i1+n)-o.i1>n+n))=false
 rw[bp this,Bool.and_false]
theorem Cod.end(h:Cod a b f i j l)(e:l= []):i=a.length/\j=b.length:=by
 cases h with
 |nil=>exact⟨rfl,rfl⟩
 |eq=>cases e
 |ch=>cases e
inductive CoI(a b:aq Int)(f:bc ec)(i j:Int):Op->aq Op->Prop
 |eq {k:Int}{l:aq Op} (hf:f≠am be) (p:0<k) (m:Mt a b i j k) (h:Cod a b (am be) (i+k) (j+k) l):CoI a b f i j (eqO i j k) l
 |ch {i' j':Int}{g:Tg}{l:aq Op} (hf:f≠am false) (hg:g.isEq=false) (hi:i<=i') (hj:j<=j') (h:Cod a b (am false) i' j' l):CoI a b f i j (chO g i j i' j') l
theorem Cod.inv(h:Cod a b f i j (o::l)):CoI a b f i j o l:=by
 generalize e:o::l=L at h
 cases h with
 |nil=>cases e
 |eq c p m h=>cases e;exact .eq c p m h
 |ch c g k d n h=>cases e;exact .ch c (zA g) k d h
theorem Gk.of(s:0<=n):∀ {d:aq Op}{cur:aq Op}{i j:Int},Cod a b (am false) i j d->kB cur=be->Gk n a b cur i j d (grps n cur (g6 n d))
 | [],cur,i,j,h,r=>by
  refine xA (h.end rfl) λz186 f=>?_;subst z186;subst f
  exact(rwL r .e0:Gk n a b cur _ _ [] (bif kB cur then [cur] else []))
 | [o],cur,i,j,h,r=>by
  cases h.inv with
  |ch e=>exact bv rfl e
  | @eq k _ e p m h=>
   show Gk n a b cur i j [eqO i j k] (grps n cur [(eqO i j k).hd n])
   rw[jR,yK s]
   show Gk n a b cur i j [eqO i j k] (bif kB (cur++[(eqO i j k).hd n]) then [cur++[(eqO i j k).hd n]] else [])
   rw[xI r]
   exact .e1 p m (h.end rfl).1 (h.end rfl).2
 |o::c::d,cur,i,j,h,r=>by
  cases h.inv with
  |ch e=>exact bv rfl e
  | @eq k _ e p m h=>
   cases h.inv with
   |eq e=>exact bv rfl e
   | @ch v w g _ e l u t h=>
   show Gk n a b cur i j (eqO i j k::chO g (i+k) (j+k) v w::d) (grps n cur (eqO i j k::g6 n (chO g (i+k) (j+k) v w::d)))
   rw[jR,(by
    intro n i j k
    show decide (i+k-i>n+n)=_
    rw[show i+k-i=k from (zzI0 0x169a29a00043 [i,k] ⋯)]:∀{n:Int}{i j k:Int},q7 n (eqO i j k)=decide (n+n<k)),oU l,lP l,lP l]
   by_cases q:n+n<k
   ·exact rwL (bm q) (.cut p q m l u t (Gk.of s h rfl))
   ·refine rwL (bp q) (.join p (kz.mp q) m l u t ?_)
    rw[ow,dt]
    exact Gk.of s h (aIr _ _ _ _)
inductive Gp(n:Int)(a b:aq Int):aq Op->aq (aq Op)->Prop
 |no {l:aq Op} (h:l= []\/∃ k,l= [eqO 0 0 k]) (e:a=b):Gp n a b l []
 |ch {g:Tg}{i j:Int}{rest:aq Op}{gs:aq (aq Op)} (hg:g.isEq=false) (hi:0<=i) (hj:0<=j) (h:Gk n a b [chO g 0 0 i j] i j rest gs):Gp n a b (chO g 0 0 i j::rest) gs
 |eq {g:Tg}{k i j:Int}{rest:aq Op}{gs:aq (aq Op)} (p:0<k) (m:Mt a b 0 0 k) (hg:g.isEq=false) (hi:k<=i) (hj:k<=j) (h:Gk n a b [(eqO 0 0 k).tl n,chO g k k i j] i j rest gs):Gp n a b (eqO 0 0 k::chO g k k i j::rest) gs
theorem len0{l:aq Int}{z:Int}(h:z=0)(e:z=l.length):l= []:=ie (A216 h e)
theorem mt_all(m:Mt a b 0 0 k)(e:k=a.length)(c:k=b.length):a=b:=by
 refine uR (A217 e c) λt f d=>?_
 have:=m t (fz t) (A218 c d)
 unfold av at this
 rw[kj,jb,ce,ce,getElem?_eq_getElem f,getElem?_eq_getElem d]at this
 exact this
theorem Gp.of(q:0<=n):∀ {l:aq Op},Cod a b ba 0 0 l->Gp n a b l (groups n l)
 | [],h=>by
  have e:groups n []= []:=by
   show grps n [] [((eqO 0 0 1).tl n).hd n]= []
   rw[jR,yK q];rfl
  exact rwL e (xA (h.end rfl) λh1 u=>.no (.inl rfl) ((len0 rfl h1).trans (len0 rfl u).symm))
 | [o],h=>by
  cases h.inv with
  | @ch j i g _ r f t s h=>
   have e:groups n [chO g 0 0 j i]=grps n [chO g 0 0 j i] (g6 n []):=by
    show grps n [] (g6 n ((bif g.isEq then _ else chO g 0 0 j i)::[]))=_
    rw[f,ow,oU f,lP f];rfl
   exact rwL e (.ch f t s (Gk.of q h (by show(!g.isEq)=be;rw[f];rfl)))
  | @eq k _ r p m h=>
   have e:groups n [eqO 0 0 k]= []:=by
    show grps n [] [((eqO 0 0 k).tl n).hd n]= []
    rw[jR,yK q];rfl
   refine rwL e (xA (h.end rfl) λh1 u=>?_)
   rw[kj]at h1 u
   exact .no (.inr ⟨k,rfl⟩) (mt_all m h1 u)
 |o::c::d,h=>by
  cases h.inv with
  | @ch j i g _ r f t s h=>
   have e:groups n (chO g 0 0 j i::c::d)=grps n [chO g 0 0 j i] (g6 n (c::d)):=by
    show grps n [] (g6 n ((bif g.isEq then _ else chO g 0 0 j i)::c::d))=_
    rw[f,ow,oU f,lP f];rfl
   exact rwL e (.ch f t s (Gk.of q h (by show(!g.isEq)=be;rw[f];rfl)))
  | @eq k _ r p m h=>
   rw[kj]at h
   cases h.inv with
   |eq r=>exact bv rfl r
   | @ch j i g _ r f t s h=>
   have e:groups n (eqO 0 0 k::chO g k k j i::d)=grps n [(eqO 0 0 k).tl n,chO g k k j i] (g6 n d):=by
    show grps n [] ((eqO 0 0 k).tl n::g6 n (chO g k k j i::d))=_
    rw[jR,(by
     intro n o q
     have: ¬(o.i2-max o.i1 (o.i2-n)>n+n):=by
      exact zzI1 0x9568a2906a0a9041f68a0000212803d087 [n,o.i2,o.i1] ⋯ q
     show(o.tag.isEq && decide (o.i2-max o.i1 (o.i2-n)>n+n))=false
     rw[bp this,Bool.and_false]:∀{n:Int}{o:Op}(q:0<=n),q7 n (o.tl n)=false) q,oU f,ow,lP f];rfl
   exact rwL e (.eq p m f t s (Gk.of q h rfl))
def chg(l:aq Op):aq Op:=l.filter λo=> !o.tag.isEq
theorem gW(l m:aq Op):chg (l++m)=chg l++chg m:=List.filter_append ..
theorem uA(h:o.tag.isEq=false)(l:aq Op):chg (o::l)=o::chg l:=List.filter_cons_of_pos (by rw[h];rfl)
theorem t9(h:o.tag.isEq=be)(l:aq Op):chg (o::l)=chg l:=List.filter_cons_of_neg (by rw[h];nofun)
theorem aGo{a b:Int}(o:Op)(d:o.tag.isEq=be)(c:g.isEq=false)(l:aq Op):chg [o,chO g i j a b]++chg l=chO g i j a b::chg l:=by
 rw[t9 d,uA c];rfl
theorem yD{a b:Int}(c:g.isEq=false)(l:aq Op):chg (chO g i j a b::l)=chO g i j a b::chg l:=uA c l
theorem mP{a b:Int}(c:g.isEq=false)(l:aq Op):chg (eqO i j k::chO g x y a b::l)=chO g x y a b::chg l:=(t9 rfl _).trans (yD c l)
theorem Gk.flat(h:Gk n a b cur i j c gs):chg gs.flatten=chg cur++chg c:=by
 induction h with
 |e0=>exact rwL List.flatten_singleton ((gz _).symm)
 |e1=>rw[List.flatten_singleton,gW];rfl
 |join p o m d l f h e=>rw[e,gW,dt,aGo (eqO _ _ _) rfl d,mP d]
 | @cut cur i j k r q g c gs p o m d l f h e=>
  rw[ue,gW,e,gW,dt,aGo ((eqO _ _ _).tl n) rfl d,mP d];rfl
theorem Gp.flat(h:Gp n a b l gs):chg gs.flatten=chg l:=by
 cases h with
 |no h e=>rcases h with rfl |⟨k,rfl⟩<;>rfl
 |ch c f d h=>rw[h.flat,<-gW];rfl
 |eq p m c f d h=>rw[h.flat,aGo ((eqO _ _ _).tl n) rfl c,mP c]
def zz:aq Op->Nat
 | []=>0
 | [o]=>bif o.tag.isEq then 1 else 0
 |_::l=>zz l
theorem Gk.cnt(h:Gk n a b cur i j c gs):gs.flatten.length+1=cur.length+2*(chg c).length+gs.length+zz c:=by
 have f:∀ {x y:Op}{l:aq Op},y.tag.isEq=false->zz (x::y::l)=zz l:=λ{x y l} h=>by
  cases l with
  |nil=>show(bif y.tag.isEq then 1 else 0)=0;rw[h];rfl
  |cons=>rfl
 induction h with
 |e0=>rw[List.flatten_singleton];rfl
 |e1=>refine rwL List.flatten_singleton (rwL bq ?_);rfl
 | @join cur i j k s o g c gs p t m d r q h e=>
  rw[e,f d,mP d,bq,ea,ea,ea,ky,Nat.mul_add]
  exact (zzM0 0x16ba81f42fa90be02800002baa90be07d07d03d000a00000001 [cur.length,(chg c).length,gs.length,zz c] ⋯)
 | @cut cur i j k s o g c gs p t m d r q h e=>
  rw[f d,mP d,ue,bq,bq,ea,ea,ea,ky]
  rw[ea,gu]at e
  exact zzM1 0x526b07da8007da400beb0000007da01f40f40b0000006baa90be07d07d00000007da00047 [gs.flatten.length,(chg c).length,gs.length,zz c,cur.length] ⋯ e
def bare(l:aq Op):aq Op:=chg (l.take 1++l.drop (l.length-1))
theorem mR:∀ (l:aq Op),l≠ []->(chg (l.drop (l.length-1))).length+zz l=1
 | [],h=>bv rfl h
 | [o],_=>by
  show(chg [o]).length+(bif o.tag.isEq then 1 else 0)=1
  cases e:o.tag.isEq with
  |true=>rw[t9 e];rfl
  |false=>rw[uA e];rfl
 |o::p::l,_=>mR (p::l) nofun
theorem Gp.cnt(h:Gp n a b l gs):gs.flatten.length+(bare l).length=2*(chg l).length+gs.length:=by
 cases h with
 |no h e=>rcases h with rfl |⟨k,rfl⟩<;>rfl
 | @ch g i j c gs d s r h=>
  have f:zz (chO g 0 0 i j::c)=zz c:=by
   cases c with
   |nil=>show(bif g.isEq then 1 else 0)=0;rw[d];rfl
   |cons=>rfl
  have q:(bare (chO g 0 0 i j::c)).length=1+(chg ((chO g 0 0 i j::c).drop ((chO g 0 0 i j::c).length-1))).length:=by
   delta bare
   rw[gW,bq]
   refine b3 (·+_) ?_
   show(chg [chO g 0 0 i j]).length=1
   rw[yD d];rfl
  have o:(chg (chO g 0 0 i j::c)).length=(chg c).length+1:=by rw[yD d];rfl
  exact A222 (rwR gu h.cnt) (f▸(mR (chO g 0 0 i j::c) nofun)) q o
 | @eq g k i j c gs p m d s r h=>
  have e:=h.cnt
  have f:zz (eqO 0 0 k::chO g k k i j::c)=zz c:=by
   cases c with
   |nil=>show(bif g.isEq then 1 else 0)=0;rw[d];rfl
   |cons=>rfl
  have q:(bare (eqO 0 0 k::chO g k k i j::c)).length=(chg ((eqO 0 0 k::chO g k k i j::c).drop ((eqO 0 0 k::chO g k k i j::c).length-1))).length:=by
   delta bare
   rw[gW,bq]
   exact Nat.zero_add _
  have o:(chg (eqO 0 0 k::chO g k k i j::c)).length=(chg c).length+1:=by rw[mP d];rfl
  rw[ea,gu]at e
  exact A223 e (rwR f (mR (eqO 0 0 k::chO g k k i j::c) nofun)) q o
def s1:aq Op->Int | []=>0 |o::_=>o.i1
def s2:aq Op->Int | []=>0 | [o]=>o.i2 |_::l=>s2 l
def t1:aq Op->Int | []=>0 |o::_=>o.j1
def t2:aq Op->Int | []=>0 | [o]=>o.j2 |_::l=>t2 l
theorem lD(o:Op):∀ l:aq Op,s2 (l++[o])=o.i2
 | []=>rfl
 | [x]=>rfl
 |x::y::l=>lD o (y::l)
theorem lB(o:Op):∀ l:aq Op,t2 (l++[o])=o.j2
 | []=>rfl
 | [x]=>rfl
 |x::y::l=>lB o (y::l)
theorem wY(h:l≠ [])(m:aq Op):s1 (l++m)=s1 l:=by cases l with |nil=>exact bv rfl h |cons=>rfl
theorem wT(h:l≠ [])(m:aq Op):t1 (l++m)=t1 l:=by cases l with |nil=>exact bv rfl h |cons=>rfl
def Op.sw(o:Op):Op:=⟨o.tag,o.j1,o.j2,o.i1,o.i2⟩
theorem Mt.sw(m:Mt a b i j k):Mt b a j i k:=λt d c=>(m t d c).symm
theorem Gk.sw(h:Gk n a b cur i j c gs):Gk n b a (cur.map Op.sw) j i (c.map Op.sw) (gs.map (List.map Op.sw)):=by
 induction h with
 |e0=>exact .e0
 | @e1 cur i j k p m s t=>
  exact rwL (show [cur++[(eqO i j k).hd n]].map (List.map Op.sw)= [cur.map Op.sw++[((eqO j i k).hd n)]] from b3 (λx=>[x]) bI) (.e1 p m.sw t s)
 | @join cur i j k u r g c gs p q m e o l h d=>
  rw[bI]at d
  exact .join p q m.sw e l o d
 | @cut cur i j k u r g c gs p q m e o l h d=>
  exact rwL (kn (f:=List.map Op.sw)) (rwL bI (.cut p q m.sw e l o d))
theorem Gp.sw(h:Gp n a b l gs):Gp n b a (l.map Op.sw) (gs.map (List.map Op.sw)):=by
 cases h with
 |no h e=>exact .no (h.imp (λh=>by rw[h];rfl) fun⟨k,h⟩=>⟨k,by rw[h];rfl⟩) e.symm
 |ch d f c h=>exact .ch d c f h.sw
 |eq p m d f c h=>exact .eq p m.sw d c f h.sw
def sl(l:aq Int)(i j:Int):aq Int:=(l.drop i.toNat).take (j.toNat-i.toNat)
theorem sF(h1:i<=j)(h2:j<=k):sl l i j++sl l j k=sl l i k:=by
 delta sl
 have b:=Int.toNat_le_toNat h1
 have a:=Int.toNat_le_toNat h2
 generalize i.toNat=x at b ⊢
 generalize j.toNat=y at b a ⊢
 generalize k.toNat=z at a ⊢
 obtain⟨u,rfl⟩:=Nat.le.dest b
 obtain⟨v,rfl⟩:=Nat.le.dest a
 rw[Nat.add_sub_cancel_left,Nat.add_sub_cancel_left,Nat.add_assoc,Nat.add_sub_cancel_left,List.take_add,tq]
theorem aHp:sl l i i= []:=by delta sl;rw[pI,List.take_zero]
theorem aC4:sl l i l.length=l.drop i.toNat:=by
 delta sl
 rw[jb,og]
 exact rwL mB (Nat.le_refl _)
theorem gZ(h0:0<=i)(h1:i<=j)(h2:j<=l.length):((sl l i j).length:Int)=j-i:=by
 obtain⟨x,rfl⟩:=jp h0
 obtain⟨u,rfl⟩:=Int.le.dest h1
 show(((l.drop x).take (x+u-x)).length:Int)=_
 rw[sM,mB,Nat.add_sub_cancel_left,Nat.min_eq_left (Nat.le_sub_of_add_le (wa x u▸(pF.mp h2))),Int.add_comm,Int.add_sub_cancel]
theorem Mt.pre(m:Mt a b i j k)(h:t<=k):Mt a b i j t:=λx c d=>m x c (iw d h)
theorem Mt.suf(m:Mt a b i j k)(h:0<=t):Mt a b (i+t) (j+t) (k-t):=λx c d=>by
 rw[me,me]
 exact m (t+x) (Int.add_nonneg h c) (Int.add_lt_of_lt_sub_left d)
theorem av_at{t:Nat}(a:0<=i)(h:i.toNat+t<l.length):av l (i+t)=l[i.toNat+t]:=by
 delta av
 rw[ce,show (i+(t:Int)).toNat=i.toNat+t from A230 a,getElem?_eq_getElem h];rfl
theorem aC3(m:Mt a b i j k)(d:0<=i)(c:0<=j)(g:i+k<=a.length)(f:j+k<=b.length)(k0:0<=k):sl a i (i+k)=sl b j (j+k):=by
 have lb:=gZ c (kS j k0) f
 refine uR (A231 (gZ d (kS i k0) g) lb) λt e h=>?_
 have tk:=A232 lb h
 have e:=by exact A233 d g tk
 have:=m t (fz t) tk
 rw[av_at d e,av_at c (by exact A233 c f tk:j.toNat+t<b.length)]at this
 exact(List.getElem_take.trans List.getElem_drop).trans (this.trans (List.getElem_take.trans List.getElem_drop).symm)
class inductive Cq(a b:aq Int):Int->Int->aq Op->Int->Int->Prop
 |nil {i j:Int}:Cq a b i j [] i j
 |eq {i j k x y:Int}{l:aq Op} (k0:0<=k) (m:Mt a b i j k) (h:Cq a b (i+k) (j+k) l x y):Cq a b i j (eqO i j k::l) x y
 |ch {i j i' j' x y:Int}{g:Tg}{l:aq Op} (hg:g.isEq=false) (hi:i<=i') (hj:j<=j') (h:Cq a b i' j' l x y):Cq a b i j (chO g i j i' j'::l) x y
theorem Cq.app(h:Cq a b i j l x y)(h2:Cq a b x y m u v):Cq a b i j (l++m) u v:=by
 induction h with
 |nil=>exact h2
 |eq e m h c=>exact .eq e m (c h2)
 |ch f g d h c=>exact .ch f g d (c h2)
theorem Cq.le(h:Cq a b i j l x y):i<=x/\j<=y:=by
 induction h with
 |nil=>exact⟨c4 _,c4 _⟩
 |eq d m h c=>exact⟨dw (kS _ d) c.1,dw (kS _ d) c.2⟩
 |ch g f e h c=>exact⟨dw f c.1,dw e c.2⟩
theorem Cq.hd(h:Cq a b i j l x y)(c:l≠ []):s1 l=i/\t1 l=j:=by
 cases h with
 |nil=>exact bv rfl c
 |eq=>exact⟨rfl,rfl⟩
 |ch=>exact⟨rfl,rfl⟩
theorem oH(o:Op)(h:l≠ []):s2 (o::l)=s2 l/\t2 (o::l)=t2 l:=by
 cases l with
 |nil=>exact bv rfl h
 |cons=>exact⟨rfl,rfl⟩
theorem Cq.last(h:Cq a b i j l x y)(d:l≠ []):s2 l=x/\t2 l=y:=by
 induction h with
 |nil=>exact bv rfl d
 | @eq i j k x y l f m h c=>
  by_cases q:l= []
  ·subst q;cases h;exact⟨rfl,rfl⟩
  ·rw[(oH _ q).1,(oH _ q).2];exact c q
 | @ch i j p r x y g l n o e h c=>
  by_cases q:l= []
  ·subst q;cases h;exact⟨rfl,rfl⟩
  ·rw[(oH _ q).1,(oH _ q).2];exact c q
class inductive GL(a b:aq Int):ec->Int->Int->aq (aq Op)->Prop
 |nil {s:ec}{e f k:Int} (k0:0<=k) (m:Mt a b e f k) (ei:e+k=a.length) (ej:f+k=b.length):GL a b s e f []
 |cons {s:ec}{e f t x y:Int}{g:aq Op}{gs:aq (aq Op)} (t0:0<=t) (st:s=be->0<t) (m:Mt a b e f t) (c:Cq a b (e+t) (f+t) g x y) (ne:g≠ []) (h:GL a b be x y gs):GL a b s e f (g::gs)
theorem zE{k:Int}:min (i+k) (i+n)=i+min k n:=by
 rcases Int.le_total k n with h |h
 ·rw[su h,su (Int.add_le_add_left h i)]
 ·rw[m3 h,m3 (Int.add_le_add_left h i)]
theorem zI{k:Int}(h:n<=k):max i (i+k-n)=i+(k-n):=by
 rw[Int.add_sub_assoc]
 exact ry (kS i (h7 h))
theorem wJ{k:Int}:i+k=i+(k-n)+n:=by rw[me,Int.sub_add_cancel]
theorem rO:(eqO i j k).hd n=eqO i j (min k n):=by
 show Op.mk .eq i (min (i+k) (i+n)) j (min (j+k) (j+n))=Op.mk .eq i (i+min k n) j (j+min k n)
 rw[zE,zE]
theorem aCs(h:n<=k):(eqO i j k).tl n=eqO (i+(k-n)) (j+(k-n)) n:=by
 show Op.mk .eq (max i (i+k-n)) (i+k) (max j (j+k-n)) (j+k)=Op.mk .eq (i+(k-n)) (i+(k-n)+n) (j+(k-n)) (j+(k-n)+n)
 rw[zI h,zI h,<-wJ,<-wJ]
theorem mt0:Mt a b i j 0:=λt d c=>bv c (kz.mpr d)
theorem GL.le(h:GL a b s e f gs):e<=a.length/\f<=b.length:=by
 induction h with
 |nil d m k j=>exact⟨k▸kS _ d,j▸kS _ d⟩
 |cons g st m c l h i=>exact⟨dw (kS _ g) (dw c.le.1 i.1),dw (kS _ g) (dw c.le.2 i.2)⟩
theorem Gk.gl(r:0<=n)(h:Gk n a b cur i j d gs):∀ {s:ec}{e f t:Int},0<=t->(s=be->0<t)->Mt a b e f t->Cq a b (e+t) (f+t) cur i j->cur≠ []->GL a b s e f gs:=by
 induction h with
 |e0=>exact λt0 st q c o=>.cons t0 st q c o (.nil (c4 0) mt0 (jq _) (jq _))
 | @e1 cur i j k p m C D=>
  intro s e f t t0 st q c o
  refine rwL rO ?_
  have l:=Int.min_le_left k n
  refine .cons t0 st q (c.app (.eq (Int.le_min.mpr ⟨jd p,r⟩) (m.pre l) .nil)) (List.append_ne_nil_of_left_ne_nil o _) (.nil (h7 l) (m.suf (Int.le_min.mpr ⟨jd p,r⟩)) (rwR C A234) ?_)
  ·exact rwR D A234
 | @join cur i j k E B g d gs p u m v y w h z=>
  exact λt0 st q c o=>z t0 st q (c.app (.eq (jd p) m (.ch v y w .nil))) (List.append_ne_nil_of_left_ne_nil o _)
 | @cut cur i j k E B g d gs p u m v y w h z=>
  intro s e f t t0 st q c o
  have l:=A235 p u
  refine rwL rO (rwL (m3 l) ?_)
  have e1:∀ x:Int,x+n+(k-n-n)=x+(k-n):=λx=>(zzI0 0x169a81a00a69a81069a00003 [x,n,k] ⋯)
  have A:∀ x:Int,x+(k-n)+n=x+k:=λx=>(zzI0 0x169a00aaaa41a00003 [x,k,n] ⋯)
  refine .cons t0 st q (c.app (.eq r (m.pre l) .nil)) (List.append_ne_nil_of_left_ne_nil o _) (((aCs l)▸z) (jd (A236 u)) (λF=>(A236 u)) ((m.suf r).pre (zzI1 0x5a29068a290410a803d087 [n,k] ⋯ r)) ?_ nofun)
  rw[e1,e1]
  refine .eq r ((m.suf (zzI1 0x5a29040f42a68087 [n,k] ⋯ l)).pre (zzI0 0x68a41a41a02 [n,k] ⋯)) ?_
  rw[A,A]
  exact .ch v y w .nil
theorem Gp.gl(o:0<=n)(h:Gp n a b l gs):GL a b false 0 0 gs:=by
 cases h with
 |no h e=>subst e;exact .nil (fz a.length) (λt u u=>rfl) (kj _) (kj _)
 |ch d f c h=>exact h.gl o (c4 0) nofun mt0 (.ch d f c .nil) nofun
 | @eq g k i j s gs p m d f c h=>
  have t:(eqO 0 0 k).tl n=eqO (0+(k-min k n)) (0+(k-min k n)) (min k n):=by
   show Op.mk .eq (max 0 (0+k-n)) (0+k) (max 0 (0+k-n)) (0+k)=Op.mk .eq (0+(k-min k n)) (0+(k-min k n)+min k n) (0+(k-min k n)) (0+(k-min k n)+min k n)
   rw[show max 0 (0+k-n)=0+(k-min k n) from (zzI0 0x4a911112aa680e8040f40a6803d00103d083 [k,n] ⋯),show 0+k=0+(k-min k n)+min k n from (zzI0 0x11149525129a03a680e8040f4002803d003 [k,n] ⋯)]
  have q:=Int.min_le_left k n
  have r:=Int.le_min.mpr ⟨jd p,o⟩
  exact (t▸h).gl o (h7 q) nofun (m.pre (Int.sub_le_self _ r)) (.eq r ((m.suf (h7 q)).pre (zzI0 0x44a529a03a01a01a680c2 [k,n] ⋯)) (rwL (show 0+(k-min k n)+min k n=k from (zzI0 0x444a92a44a29a03a680e8040f40003 [k,n] ⋯)) (.ch d f c .nil))) nofun
class inductive Its(K:ItK C)(B:MH):K.σ->aq V->Prop
 |nil {it:K.σ} (h:∀ {H:MH}{P:bc (V×K.σ)->MH->Prop},Hx B H->P ba H->K.nx it H P):Its K B it []
 |cons {it it':K.σ}{v:V}{vs:aq V} (h:∀ {H:MH}{P:bc (V×K.σ)->MH->Prop},Hx B H->P (am (v,it')) H->K.nx it H P) (t:Its K B it' vs):Its K B it (v::vs)
theorem lO(d:lst B (.ref r)=am vs):∀ (a:aq V) (p:Nat),vs.drop p=a->Its (bB C) B (r,p) a:=λn=>by
 induction n with
 |nil=>
  intro p b
  exact .nil λ{H P} c q=>Lf.mk (by
    show(lst H (.ref r)).map _=_
    rw[c.lst d,qd,gV (nN.mp b)];rfl) q
 |cons v a e=>
  intro p b
  exact .cons (λ{H P} c q=>Lf.mk (by
     show(lst H (.ref r)).map _=_
     rw[c.lst d,qd,show vs[p]? =am v from by rw[<-uc,b];rfl];rfl) q)
    (e (p+1) (by rw[<-tq,b];rfl))
theorem oM:∀ (n:Nat) (x:Int),Its (kU C) B (x,n,1) (mZ x 1 n)
 |0,x=>.nil λhx q=>q
 |n+1,x=>.cons (λhx q=>q) (oM n (x+1))
structure Put(I:Lo->Prop)(B:MH)(ai:Nat)(out:aq V)(F:Lo->MH->LK->Prop):Prop where
 p:∀ {lo:Lo}{H:MH}{acc:aq V}{P:LK},I lo->Hx B H->H[ai]? =am (.list acc)->acc.length+out.length<1000000->
 (∀ {lo' H'},I lo'->Hx B H'->H'[ai]? =am (.list (acc++out))->P lo' H')->F lo H P
def d6(tgt:AF)(t:TF)(bf:Lo->MH->LK->Prop)(v:V):Lo->MH->LK->Prop:=λlo H P=>tgt v lo H λlo1 H1=>t lo1 H1 λb H2=>bif b then bf lo1 H2 P else P lo1 H2
theorem aAs{α:Type}{K:ItK C}{c:BF}{Q:EK}{it:K.σ}(f:α->V)(out:α->aq V)(I:Lo->Prop)(l:aq α)(j:Its K H it (l.map f))(z:I (hide g lo))(e:(l.flatMap out).length<1000000)(hs:∀ x∈l,Put I H H.length (out x) (d6 tgt t (c H.length) (f x)))(k:∀ {H'},Hx H H'->H'[H.length]? =am (.list (l.flatMap out))->Q (.ref H.length) H'):∃ n,lE K tgt t (c H.length) n it (hide g lo) (H++[.list []]) λG u=>Q (.ref H.length) u:=⟨_,(by
 exact λ{C H B α K tgt t c d} f out I=>λn=>by
   induction n with
   |nil=>
    intro it j hs lo H acc P i a m e k
    cases j with
    |nil h=>exact h a (k i a (by rw[List.flatMap_nil,gz];exact m))
   |cons x l E=>
    intro it j hs lo H acc P i a m e k
    cases j with
    |cons h A=>
     rw[lp,bq]at e
     refine h a ((hs x c3).p i a m (zzM1 0x15ec3283d07da6800001ec3283d07daa9028000007 [acc.length,(out x).length,(List.flatMap out l).length] ⋯ e) λ{b H'} F r s=>(E A (λy w=>hs y (eh _ w)) F r s (by exact rwL bq (zzM1 0x15ec3283d07daa9a0000001ec3283d07daa9028000007 [acc.length,(out x).length,(List.flatMap out l).length] ⋯ e)) λ{D u} v q o=>k v q ?_))
     rw[lp,<-dt];exact o:∀{C:Cx}{H:MH}{B:MH}{α:Type}{K:ItK C}{tgt:AF}{t:TF}{c:BF}{d:Nat}(f:α->V)(out:α->aq V)(I:Lo->Prop),∀ (l:aq α){it:K.σ},Its K B it (l.map f)->(∀ x∈l,Put I B d (out x) (d6 tgt t (c d) (f x)))-> ∀ {lo:Lo}{H:MH}{acc:aq V}{P:LK},I lo->Hx B H->H[d]? =am (.list acc)->acc.length+(l.flatMap out).length<1000000->(∀ {b H'},I b->Hx B H'->H'[d]? =am (.list (acc++l.flatMap out))->P b H')->lE K tgt t (c d) (l.length+1) it lo H P) f out I l j hs z (.app _ _) (aT _ _) (by rw[ky,Nat.zero_add];exact e) (λG a m=>k a m)⟩
theorem qO{α:Type}{K:ItK C}{a:aq Str}{b:IF K}{it:K.σ}(f:α->V)(out:α->aq V)(I:Lo->Prop)(l:aq α)(h:∀ {P:K.σ->MH->Prop},P it H->b lo H P)(e:Its K H it (l.map f))(g:I (hide a lo))(d:(l.flatMap out).length<1000000)(hs:∀ x∈l,Put I H H.length (out x) (d6 tgt t (c H.length) (f x)))(k:∀ {H'},Hx H H'->H'[H.length]? =am (.list (l.flatMap out))->Q (.ref H.length) H'):bU K a b tgt t c lo H Q:=h (aAs f out I l e g d hs k)
theorem iL_i(b:∀ {Q:EK},Q (.ref r) H->f lo H Q)(a:lst H (.ref r)=am vs)(q:P (r,0) H):iL f lo H P:=b (Lf.mk rfl ⟨⟨_,a⟩,q⟩)
theorem cZ{α:Type}{a:aq Str}{b:BF}(f:α->V)(out:α->aq V)(I:Lo->Prop)(l:aq α)(d:lo x=am (.ref r))(h:lst H (.ref r)=am (l.map f))(e:I (hide a lo))(c:(l.flatMap out).length<1000000)(hs:∀ x∈l,Put I H H.length (out x) (d6 tgt t (b H.length) (f x)))(k:∀ {H'},Hx H H'->H'[H.length]? =am (.list (l.flatMap out))->Q (.ref H.length) H'):bU (bB C) a (iL (eN x)) tgt t b lo H Q:=qO f out I l (iL_i (λq=>aW d q) h) (lO h _ 0 rfl) e c hs k
theorem vA{I:Lo->Prop}{P:LK}(f:B[ai]? =ba)(d:Hx B H)(b:H[ai]? =am (.list acc))(c:acc.length+out.length<1000000)(e:out= [v])(i:I lo)(k:∀ {a H'},I a->Hx B H'->H'[ai]? =am (.list (acc++out))->P a H'):Lf (H[ai]?.bind MO.own) λvs=>vs.length<1000000/\P lo (H.set ai (.list (vs++[v]))):=Lf.mk (d9 b) ⟨hV (r5 _ _) c,k i (d.set f) (by exact rwL e (aP b _))⟩
theorem put0{ai:Nat}{I:Lo->Prop}{P:LK}(b:Hx B H)(c:H[ai]? =am (.list acc))(e:out= [])(i:I lo)(k:∀ {a H'},I a->Hx B H'->H'[ai]? =am (.list (acc++out))->P a H'):P lo H:=k i b (by rw[e,gz];exact c)
structure Val(I:Lo->Prop)(B:MH)(ai:Nat)(v:V)(F:Lo->MH->EK->Prop):Prop where
 p:∀ {lo:Lo}{H:MH}{acc:aq V}{Q:EK},I lo->Hx B H->H[ai]? =am (.list acc)->(∀ {H'},Hx B H'->H'[ai]? =am (.list acc)->Q v H')->F lo H Q
theorem y4{f:EF}(h:B[ai]? =ba)(n:∀ {lo:Lo}{H:MH}{R:Lo->MH->Prop},I lo->(∀ {a},J a->I a->R a H)->tgt w lo H R)(e:Val J B ai v f):Put I B ai [v] (d6 tgt (tK be) (bA f ai) w):=⟨λ{lo H acc P} i m g d k=>n i λ{a} j l=>e.p j m g λ{H'} b c=>vA h b c d rfl l k⟩
theorem wA(h1:rd H eqD x=am d)(h2:rd H eqD y=am d)(s:PySem.SeqAt.shaped d=be):eqv H x y=am be:=by
 delta eqv
 rw[h1,h2]
 show(if (PySem.SeqAt.shaped d && PySem.SeqAt.shaped d)=be then am (PyData.eqv d d) else ba)=am be
 exact rwL s (b3 am (PySem.SeqAt.eqv_refl d ((du.mp s).1)))
theorem oJ{α:Type}(f:α->V)(d:α->mc){l:aq α}(a:lst H (.ref r)=am (l.map f))(h:∀ x∈l,rd H n (f x)=am (d x)):rd H (n+1) (.ref r)=am (.list (l.map d)):=by
 show(lst H (.ref r)).bind (λvs=>(vs.mapM (rd H n)).map PyData.list)=_
 rw[a]
 show((l.map f).mapM (rd H n)).map PyData.list=_
 rw[(by
  exact λ{H α n} f d=>λn=>by
    induction n with
    |nil=>
     exact λq=>rfl
    |cons x l b=>
     intro h
     rw[kn,uU,h x c3,b λy c=>h y (eh _ c)];rfl:∀{H:MH}{α:Type}{n:Nat}(f:α->V)(d:α->mc),∀ l:aq α,(∀ x∈l,rd H n (f x)=am (d x))->(l.map f).mapM (rd H n)=am (l.map d)) f d l h];rfl
theorem aDo{α:Type}(d:α->mc):∀ l:aq α,(∀ x∈l,(d x).canLay0=be/\(d x).depth<=m)->PyData.canLayAll0 (l.map d)=be/\PyData.depthAll (l.map d)<=m:=λn=>by
 induction n with
 |nil=>
  exact λq=>⟨rfl,jw _⟩
 |cons x l e=>
  intro h
  have a:=h x c3
  have b:=e λy c=>h y (eh _ c)
  refine⟨?_,Nat.max_le.mpr ⟨a.2,b.2⟩⟩
  show((d x).canLay0 && PyData.canLayAll0 (l.map d))=be
  rw[a.1,b.1];rfl
theorem j3{α:Type}(f:α->V)(d:α->mc){l:aq α}(h1:lst H (.ref r)=am (l.map f))(h2:lst H (.ref c)=am (l.map f))(b:∀ x∈l,rd H 7 (f x)=am (d x))(hs:∀ x∈l,(d x).canLay0=be/\(d x).depth<=9):eqv H (.ref r) (.ref c)=am be:=wA (oJ f d h1 b) (oJ f d h2 b) (((by
  intro a hs d
  unfold PySem.SeqAt.shaped
  rw[bm d,Bool.and_true];exact hs:∀{a:aq mc}(hs:PyData.canLayAll0 a=be)(d:(PyData.list a).depth<=64),PySem.SeqAt.shaped (.list a)=be) (aDo d l hs).1 (Nat.succ_le_of_lt (hV (aDo d l hs).2 (by decide)))))
def dI(x:Int):mc:=.int x
def dO(o:Op):mc:=.tuple [.str o.tag.s,.int o.i1,.int o.i2,.int o.j1,.int o.j2]
def pk{α:Type}(vs:aq α)(lo hi st:bc Int):aq α:=(sliceRange (qX lo hi st vs.length).1 (qX lo hi st vs.length).2.1 (qX lo hi st vs.length).2.2).filterMap (vs[·]?)
theorem kN(g:α->β)(vs:aq α)(lo a st:bc Int):pk (vs.map g) lo a st=(pk vs lo a st).map g:=by
 delta pk
 rw[bg,List.map_filterMap]
 congr 1
 funext i
 exact gh
theorem pk_len(vs:aq α)(lo a st:bc Int):(pk vs lo a st).length<=vs.length:=by
 have h:=slicePick_size_le (vs.map λq=>Value.none).toArray lo a st
 have e:(slicePick (vs.map λq=>Value.none).toArray lo a st).size=(pk (vs.map λq=>Value.none) lo a st).length:=by
  exact rwL tu (rwL tu (b3 (λg=>(qs g _).length) (funext λi=>List.getElem?_toArray)))
 rw[e,kN,bg]at h
 exact Nat.le_trans h (by rw[tu,bg];exact Nat.le_refl _)
theorem hO(vs:aq α)(lo a:bc Int):pk vs lo a ba=(vs.drop (lo.elim 0 (pe vs.length))).take (a.elim vs.length (pe vs.length)-lo.elim 0 (pe vs.length)):=by
 delta pk
 rw[sliceBounds_plain]
 rw[<-(funext λi=>List.getElem?_toArray)]
 rw[sliceRange_one,pick_run]
theorem oW{n:Nat}{x:Int}(h0:0<=x)(h1:x<=n):pe n x=x.toNat:=by
 refine xE (jp h0) λm a=>?_;subst a
 rw[clipAt_nat,Nat.min_eq_left (pF.mp h1),jb]
theorem y5{j:Int}(h1:0<=j)(h2:j<=l.length):pk l (am j) ba ba=l.drop j.toNat:=by
 rw[hO]
 show((l.drop (pe l.length j)).take (l.length-pe l.length j))=_
 exact rwL (oW h1 h2) (og (by exact rwL mB (Nat.le_refl _)))
theorem lC{lo a st:bc Int}(h:lst H (.ref r)=am vs)(c:vs.length<1000000)(b:st≠am 0)(q:Q (.ref H.length) (H++[.list (pk vs lo a st)])):Lp (slc (.ref r) lo a st H) Q:=by
 refine Lp.mk ?_ q
 show(lst H (.ref r)).bind _=_
 rw[h]
 show(if vs.length<1000000/\st≠am 0 then mkL (y6 vs lo a st) H else ba)=_
 rw[ca ⟨c,b⟩,(by exact λvs lo a st=>rfl:∀(vs:aq V)(lo a st:bc Int),y6 vs lo a st=pk vs lo a st)]
 exact ca (hV (pk_len ..) c)
theorem jK{a:Nat}(h:H[r]? =am (.list vs))(h':H[a]? =am (.list ws))(b:vs.length+ws.length<1000000)(q:Q (.ref H.length) (H++[.list (vs++ws)])):Lp (aH (.ref r) (.ref a) H) Q:=(by
 refine Lp.mk ?_ q
 show(lst H (.ref r)).bind (λxs=>(lst H (.ref a)).bind λys=>mkL (xs++ys) H)=_
 exact rwL (aL h) (rwL (aL h') (ca (by exact rwL bq b))))
theorem vR:∀ l:aq Int,m6 (l.map V.int)=am l
 | []=>rfl
 |x::l=>by
  have:=vR l
  unfold m6 at this ⊢
  rw[kn,uU,this];rfl
theorem aCx{l:aq Int}(h:lst H (.ref r)=am (l.map V.int))(q:Q (.int l.sum) H):yG [.ref r] H Q:=by
 refine Lp.mk ?_ q
 show(lst H (.ref r)).bind (λxs=>(m6 xs).map λis=>(V.int is.sum,H))=_
 rw[h]
 show(m6 (l.map V.int)).map _=_
 rw[vR];rfl
theorem qA(h:lst H (.ref r)=am vs)(a:vs.length<1000000)(q:Q (.int vs.length) H):b5 [.ref r] H Q:=by
 refine Lp.mk ?_ q
 show(lst H (.ref r)).bind _=_
 exact rwL h (ca a)
def Ke(H H':MH)(gi it:Nat):Prop:=∀ (r:Nat) (m:MO),r≠gi->r≠it->H[r]? =am m->H'[r]? =am m
inductive GnT(n:Int)(H:MH)(gi it cd:Nat):aq (aq Op)->Prop
 |loop {s gr p:Nat}{o:Op}{all:aq Op} (g:H[gi]? =am (.gen (.loop it (kX s n cd gr o)))) (c:H[cd]? =am (.list (all.map Op.v))) (i:H[it]? =am (.itr (am (cd,p)))) (pl:p<=all.length) (al:all.length<=900):GnT n H gi it cd (grps n [o.tl n] (all.drop p))
 |last {lo:Lo} (g:H[gi]? =am (.gen (.last lo))):GnT n H gi it cd []
theorem GnT.to(G:GnT n H gi it cd gs)(k:∀ (r:Nat) (m:MO),r=gi\/r=it\/r=cd->H[r]? =am m->H'[r]? =am m):GnT n H' gi it cd gs:=by
 cases G with
 |loop g c i pl al=>exact .loop (k _ _ (.inl rfl) g) (k _ _ (.inr (.inr rfl)) c) (k _ _ (.inr (.inl rfl)) i) pl al
 |last g=>exact .last (k _ _ (.inl rfl) g)
theorem lS(G:GnT n H gi it cd gs)(I:it≠cd)(b:it≠gi)(E:gi≠cd)(k0:∀ {H'},gs= []->Ke H H' gi it->Q ba H')(F:∀ {H' r g l},gs=g::l->Ke H H' gi it->H'[r]? =am (.list (g.map Op.v))->H[r]? =ba->GnT n H' gi it cd l->(∃ m,H'[it]? =am m)->Q (am (.ref r)) H'):(gfn X).nx gi H Q:=by
 cases G with
 |last g=>exact Lf.mk (zS g) (k0 rfl λr m q R e=>aM e q.symm)
 | @loop s N p o z g c i pl al=>
  refine Lf.mk (zS g) (gf2_i X ?_)
  have d:=aP g (.gen .run)
  have a:∀ (r:Nat) (m:MO),gi≠r->H[r]? =am m->(H.set gi (.gen .run))[r]? =am m:=λr m q e=>aM e q
  have k:=a _ _ E c
  have t:=a _ _ b.symm i
  have u:H[(H.set gi (MO.gen .run)).length]? =ba:=gV (by exact rwL List.length_set (Nat.le_refl _))
  revert d k t a u
  generalize H.set gi (.gen .run)=H1
  intro d a k t u
  have y:∀ (r:Nat) (m:MO),H1[r]? =am m->((H1++[MO.list []]).set H1.length (.list ([]++[(o.tl n).v])))[r]? =am m:=λr m e=>aM (Hx.app _ _ _ _ e) (cV e)
  have f:∀ {H':MH},Ex2 ((H1++[MO.list []]).set H1.length (.list ([]++[(o.tl n).v]))) H' it H1.length->∀ (r:Nat) (m:MO),it≠r->H1[r]? =am m->H'[r]? =am m:=λe r m q h=>e _ _ q (cV h) (y _ _ h)
  have A:∀ {H':MH}{m:MO},Ex2 ((H1++[MO.list []]).set H1.length (.list ([]++[(o.tl n).v]))) H' it H1.length->Ke H (H'.set gi m) gi it:=λe r m J K h=>aM (f e r m K.symm (a r m J.symm h)) J.symm
  refine gf3_i X (aT _ _) (by decide) ⟨_,sW X I (cV t).symm (cV k) (z.drop p) (cur:=[o.tl n]) (Nat.le_refl _) rfl (y _ _ k) (y _ _ t) (aP (aT _ _) _) (rwL mB (rwL gu (zzM1 0x897e8f69a0107d000724f68007 [z.length,p] ⋯ al))) ?_⟩
  ·refine⟨λ{H' P O g} e D w j M x=>⟨(f e _ _ b d),F j (A e) (aM w (cV d).symm) u (.loop (aP (f e _ _ b d) _) (aM (f e _ _ I k) E) (aM D b.symm) x al) ⟨_,aM D b.symm⟩⟩,λ{H' lo g} e w j L=>?_,λ{H'} e j=>?_⟩
   ·have B:=f e _ _ b d
    exact⟨B,F j (A e) (aM w (cV d).symm) u (.last (aP B _)) (L.imp λR h=>aM h b.symm)⟩
   ·exact⟨f e _ _ b d,k0 j (A e)⟩
inductive Mst(X:XX C)(H:MH)(s:Nat)(W:aq Op):bc Nat->Prop
 |fresh {ra rb rd rj m:Nat}{fs:Str->bc V}{f:Int->bc V}{a b:aq Int} (S:SM H s ra rb rd rj m fs f a b) (hm:fs "matching_blocks" =am .none) (ho:fs "opcodes" =am .none) (al:a.length<200) (rl:∀ r,Run a b [⟨0,a.length,0,b.length⟩] [] r->r.length<64) (hW:∀ l,Ops a b l->l=W):Mst X H s W ba
 |kept {fs:Str->bc V}{c:Nat} (h:H[s]? =am (.inst fs)) (hf:fs "opcodes" =am (.ref c)) (hc:H[c]? =am (.list (W.map Op.v))):Mst X H s W (am c)
theorem sV{a:MO}(f:H[x]? =am a)(d:a.vs=ba)(k:∀ (r:Nat) (m:MO),r≠x->H[r]? =am m->H'[r]? =am m)(e:lst H (.ref r)=am vs):lst H' (.ref r)=am vs:=by
 have e:H[r]?.bind MO.vs=am vs:=e
 show H'[r]?.bind MO.vs=am vs
 refine xEA (bn.mp e) λm b c=>?_
 exact bn.mpr ⟨m,k _ _ (λq=>by
  subst q
  refine cyS (f▸b) λzq=>?_;subst zq
  exact aE (d.symm.trans c)) b,c⟩
theorem SM.off{rd:Nat}(S:SM H s ra rb rd i n fs f a b)(c:H[x]? =am e)(xs:x≠s)(h:e.vs=ba)(t:∀ k g,e≠ .dict k g)(w:e≠ .eset)(k:∀ (r:Nat) (m:MO),r≠x->H[r]? =am m->H'[r]? =am m):SM H' s ra rb rd i n fs f a b:=by
 refine⟨k _ _ xs.symm S.o,S.fa,S.fb,S.fd,S.fj,sV c h k S.ia,sV c h k S.ib,k _ _ (λq=>?_) S.d,k _ _ (λq=>?_) S.j,λv=>(S.bj v).imp id fun⟨r,vs,l,p,u⟩=>⟨r,vs,l,sV c h k p,u⟩,S.al,S.bl⟩
 ·subst q;exact t _ _ (Option.some.inj (c.symm.trans S.d))
 ·subst q;exact w (Option.some.inj (c.symm.trans S.j))
theorem Mst.off{X:XX C}{a:MO}(M:Mst X H s W oc)(d:H[x]? =am a)(xs:x≠s)(b:a.vs=ba)(i:∀ k g,a≠ .dict k g)(n:a≠ .eset)(k:∀ (r:Nat) (m:MO),r≠x->H[r]? =am m->H'[r]? =am m):Mst X H' s W oc:=by
 cases M with
 |fresh S f l al j e=>exact .fresh (S.off d xs b i n k) f l al j e
 |kept h o c=>
  refine .kept (k _ _ xs.symm h) o (k _ _ (λq=>?_) c)
  subst q
  refine cyS (d▸c) λzq=>?_;subst zq
  exact cyM b
theorem Mst.o{X:XX C}(M:Mst X H s W oc):∃ a,H[s]? =am (.inst a):=by
 cases M with
 |fresh S=>exact⟨_,S.o⟩
 |kept h=>exact⟨_,h⟩
theorem Mst.hx{X:XX C}(M:Mst X H s W oc)(x:Hx H H'):Mst X H' s W oc:=by
 cases M with
 |fresh S c b al e a=>exact .fresh (S.hx x) c b al e a
 |kept h f d=>exact .kept (x _ _ h) f (x _ _ d)
structure Asked(X:XX C)(H H':MH)(s:Nat)(W:aq Op)(oc:bc Nat)(c:Nat):Prop where
 ex:Ex H H' s
 st:Mst X H' s W (am c)
 oc:(oc=am c/\H'=H)\/(oc=ba/\c=H.length)
theorem Mst.ask{X:XX C}(M:Mst X H s W oc)(k:∀ {H' c},Asked X H H' s W oc c->Q (.ref c) H'):aZ X [.ref s] H Q:=by
 cases M with
 |fresh S f n al g b=>
  exact pW X S f n al g λ{o r l} j p i m O=>k ⟨j,.kept i ⋯ (b l O▸m),.inr ⟨rfl,rfl⟩⟩
 |kept h a d=>
  exact kch (y7 X) ⟨rfl,At.mk h a (Lp.mk rfl (Lf.mk rfl (b7 (At.mk h a (k ⟨λq q q e=>e,.kept h a d,.inl ⟨rfl,rfl⟩⟩)))))⟩
structure G1(X:XX C)(H H':MH)(gi s:Nat)(oc:bc Nat)(W':aq Op)(c it cd:Nat):Prop where
 kp:∀ (r:Nat) (m:MO),r≠gi->r≠s->oc≠am r->H[r]? =am m->H'[r]? =am m
 ks:oc≠ba->∀ m,H[s]? =am m->H'[s]? =am m
 st:Mst X H' s W' (am c)
 oc:oc=am c\/(oc=ba/\H[c]? =ba)
 itn:H[it]? =ba
 ic:it≠cd
 ig:it≠gi
 gc:gi≠cd
 is_:it≠s
 io:it≠c
 go:gi≠c
 cdn:cd=c\/H[cd]? =ba
def wG(H:MH)(i:Nat):Nat->bc MO:=λr=>if r=i then ba else H[r]?
theorem Hp.b1(h:Hp (wG H i) H')(e:H[r]? =am m)(n:r≠i):H'[r]? =am m:=h _ _ ((bz n).trans e)
theorem rP(M:Mst X H s W oc)(ll:W.length<=200)(f:H[gi]? =am (.gen (.fresh (loB ["self","n"] [.ref s,.int n] lo0))))(k0:∀ {H' c it cd},groups n W= []->G1 X H H' gi s oc (qH n W) c it cd->Q ba H')(k1:∀ {H' r g gs c it cd},groups n W=g::gs->G1 X H H' gi s oc (qH n W) c it cd->H'[r]? =am (.list (g.map Op.v))->H[r]? =ba->GnT n H' gi it cd gs->(∃ m,H'[it]? =am m)->r≠c/\r≠it->Q (am (.ref r)) H'):(gfn X).nx gi H Q:=by
 refine Lf.mk (zS f) ?_
 show aFh X (loB ["self","n"] [.ref s,.int n] lo0) _ _
 rw[kP_0]
 rw[kP_0]at f
 refine xE M.o λff so=>?_
 have gs:gi≠s:=λq=>by
  subst q
  exact bv (f.symm.trans so) nofun
 have rr:=aP f (MO.gen .run)
 have d:∀ (r:Nat) (m:MO),r≠gi->H[r]? =am m->(H.set gi (.gen .run))[r]? =am m:=λr m q e=>aM e q.symm
 have df:∀ c,oc=am c->gi≠c:=λc q e=>by
  subst q
  subst e
  cases M with
  |kept h hf hc=>exact bv (f.symm.trans hc) nofun
 have R:=M.off f gs rfl nofun nofun d
 have j:∀ c:Nat,(H.set gi (MO.gen .run))[c]? =ba->H[c]? =ba:=λc e=>by
  rw[getElem?_eq_none_iff,List.length_set]at e
  exact gV e
 revert rr d R j
 generalize H.set gi (.gen .run)=Hr
 refine λrr d R j=>(kch (gp_1 X _) ⟨R.o,R.ask λ{I c} A=>?_⟩)
 have r2:=A.ex _ _ gs.symm rr
 have st:=A.st
 have Y:gi≠c:=by
  rcases A.oc with ⟨q,_⟩ |⟨_,q⟩
  ·exact df c q
  ·exact rwL q ((cV rr).symm)
 have L:oc=am c\/(oc=ba/\H[c]? =ba):=by
  rcases A.oc with ⟨q,_⟩ |⟨k,t⟩
  ·exact .inl q
  ·exact .inr ⟨k,j c (t▸aI Hr)⟩
 have P:∀ (r:Nat) (m:MO),r≠gi->r≠s->H[r]? =am m->I[r]? =am m:=λr m k t e=>A.ex _ _ t.symm (d _ _ k e)
 have dg:oc≠ba->∀ m,H[s]? =am m->I[s]? =am m:=λq m e=>by
  rcases A.oc with ⟨_,z⟩ |⟨z,_⟩
  ·exact rwL z (d _ _ gs.symm e)
  ·exact bv z q
 have y:∀ x:Nat,I[x]? =ba->H[x]? =ba:=λx e=>by
  cases h:H[x]? with
  |none=>rfl
  |some m=>
   by_cases k:x=gi
   ·subst k;exact aE (e.symm.trans r2)
   ·by_cases t:x=s
    ·subst t;exact xE st.o λff z=>aE (e.symm.trans z)
    ·exact aE (e.symm.trans (P _ _ k t h))
 clear A d rr R j
 cases st with
 | @kept fs _ s2 hf h2=>
 delta kP
 rw[aD]
 refine gp2_i X h2 (zzM1 0x57b0ca0f41f680001a8f68007 [W.length] ⋯ ll) λ{H3 cd} x3 h3 U=>gp34_i X h3 λ{a u1 u2 u3 u4 u5} e4 h4=>?_
 have dk:cd≠s:=λq=>by
  subst q
  exact bv (h3.symm.trans (x3 _ _ s2)) nofun
 have di:(cd=c\/H[cd]? =ba)/\gi≠cd/\a[c]? =am (.list ((qH n W).map Op.v))/\∀ (r:Nat) (m:MO),r≠c->I[r]? =am m->a[r]? =am m:=by
  rcases U with ⟨ne,rfl⟩ |⟨e,rfl⟩
  ·refine⟨.inl rfl,Y,?_,λr m q h=>e4 _ _ q.symm (x3 _ _ h)⟩
   cases W with
   |nil=>exact bv rfl ne
   |cons o l=>exact h4
  ·refine⟨.inr (y _ (aI _)),(cV r2).symm,?_,λr m q h=>e4 _ _ (cV h) (x3 _ _ h)⟩
   subst e
   exact e4 _ _ (cV h2) (x3 _ _ h2)
 clear U
 refine xAAA di λcdn gc S b=>?_
 have r4:=b _ _ Y r2
 have D:s≠c:=λq=>by
  subst q
  exact bv (h2.symm.trans s2) nofun
 have g1:∀ {H':MH}{it:Nat},Hp (wG a gi) H'->a[it]? =ba->it≠cd->G1 X H H' gi s oc (qH n W) c it cd:=λ{H' it} h u T=>
  ⟨λr m k t q3 e=>h.b1 (b _ _ (λq=>q3 (L.elim (λz=>q▸z) λz=>aE (z.2.symm.trans (q▸e)))) (P _ _ k t e)) k,
   λq m e=>h.b1 (b _ _ D (dg q m e)) gs.symm,.kept (h.b1 (b _ _ D s2) gs.symm) hf (h.b1 S Y.symm),L,y _ (by
    cases z:I[it]? with
    |none=>rfl
    |some m=>
     by_cases q:it=c
     ·subst q;exact aE (u.symm.trans S)
     ·exact aE (u.symm.trans (b _ _ q z))),T,λq=>aE (u.symm.trans (q▸r4)),gc,λq=>aE (u.symm.trans (q▸(b _ _ D s2))),λq=>aE (u.symm.trans (q▸S)),Y,cdn⟩
 have dh:∀ x:Nat,a[x]? =ba->H[x]? =ba:=λx e=>y _ (by
  cases z:I[x]? with
  |none=>rfl
  |some m=>
   by_cases q:x=c
   ·subst q;exact aE (e.symm.trans S)
   ·exact aE (e.symm.trans (b _ _ q z)))
 have b4:Hp (wG a gi) a:=(λr m e=>by
   unfold wG at e
   split at e
   ·exact aE e
   ·exact e)
 have p:(g6 n (tI n (iQ W))).length<=201:=by rw[vZ,(by intro n l;cases l<;>rfl:∀(n:Int)(l:aq Op),(tI n l).length=l.length)];exact Nat.le_trans (yB W) (rz ll)
 have K:=Hx.app a [MO.list []] _ _ h4
 have g5:=aT a (.list [])
 have F:=Hx.app a [MO.list []] _ _ r4
 have Z:Hp (wG a gi) (a++[MO.list []]):=b4.hx (.app _ _)
 have i5:=(Hx.app a [MO.list []]).fresh
 have gb:=b4.fresh
 have cg:=cV h4
 have E:=cV r4
 have i:=dh _ (aI a)
 have gn:a.length≠c/\a.length≠(a++[MO.list []]).length:=⟨cV S,by exact rwL bq ((oy _).symm)⟩
 refine kch (B:=((∃ vs,lst (a++[MO.list []]) (.ref cd)=am vs)/\(gfn X).loop (a++[MO.list []]).length (kL s n cd a.length u1 u2 u3 u4 u5) ((a++[MO.list []])++[.itr (am (cd,0))]) (GFn.finK gi Q))) ⋯ ⟨⟨_,aL K⟩,?_⟩
 revert K g5 F Z gb cg E i5 i gn
 generalize a.length=gr
 generalize a++[MO.list []]=H5
 intro K g5 F Z i5 gb cg E i gn
 have w:Hx H5 (H5++[MO.itr (am (cd,0))]):=.app _ _
 have T:=cV K
 have J:=cV F
 have G:=λ{H':MH}{m:MO} (e:Ex2 (H5++[MO.itr (am (cd,0))]) H' H5.length gr)=>g1 ((e.hx (Z.hx w) Z.fresh gb).set (m:=m) (ca rfl)) i5 T
 refine⟨_,sW X T (cV g5) cg (g6 n (tI n (iQ W))) (cur:=[]) (Nat.le_refl _) rfl (w _ _ K) (aT _ _) (w _ _ g5) (by exact rwL ky (zzM1 0x57e8f6803d0001a9f68007 [(g6 n (tI n (iQ W))).length] ⋯ p)) ⟨λ{H' o' p' g} e u f N h0 dj=>?_,λ{H' lo g} e f N hm=>?_,λ{H'} e N=>?_⟩⟩
 ·have O:=e _ _ J E (w _ _ F)
  exact⟨O,k1 N (G e) (aM f E.symm) i (.loop (aP O _) (aM (e _ _ T cg (w _ _ K)) gc) (aM u J.symm) dj (Nat.le_trans p (by decide))) ⟨_,aM u J.symm⟩ gn⟩
 ·have O:=e _ _ J E (w _ _ F)
  exact⟨O,k1 N (G e) (aM f E.symm) i (.last (aP O _)) (hm.imp λ_ h=>aM h J.symm) gn⟩
 ·exact⟨(e _ _ J E (w _ _ F)),k0 N (G e)⟩
structure Pt where
 a:Int
 b:Int
 h:ec
structure Hd where
 i1:Int
 i2:Int
 j1:Int
 j2:Int
structure Iv where
 lo:Int
 hi:Int
 w:ec
 g:Int
def hds(L:aq Pt):Int->Int->aq Hd:=L.rec (λq q=>[]) λp q r a b=>(bif p.h then [⟨a+1,p.a,b+1,p.b⟩] else [])++r p.a p.b
def iv1(a b:Int)(p:Pt):aq Iv:=bif p.h then [⟨b+1,p.b,false,p.b-b-(p.a-a)⟩] else []
def iv2(a b:Int)(p:Pt):aq Iv:=bif p.h then [⟨a+1,p.a,be,p.b-b-(p.a-a)⟩] else []
def ivs(f:Int->Int->Pt->aq Iv)(L:aq Pt):Int->Int->aq Iv:=L.rec (λq q=>[]) λp q r a b=>f a b p++r p.a p.b
structure Nxt(a b:Int)(p:Pt):Prop where
 na:a<p.a
 nb:b<p.b
 nh:p.h=false->p.a=a+1/\p.b=b+1
class inductive Jv:Int->Int->Int->Int->Int->aq Pt->aq Pt->aq Pt->Prop
 |nil {b0 a d:Int}:Jv b0 a b0 b0 d [] [] []
 |both {b0 a b c d:Int}{p q:Pt}{U W R:aq Pt}{t:ec} (n1:Nxt a b p) (n2:Nxt c d q) (l1:c<p.b) (l2:b<q.a) (e:p.b=q.a) (ht:t=be↔(p.b≠b0+1\/p.h=be\/q.h=be)) (k:Jv p.b p.a p.b q.a q.b U W R):Jv b0 a b c d (p::U) (q::W) (⟨p.a,q.b,t⟩::R)
 |left {b0 a b c d:Int}{p q:Pt}{U W R:aq Pt} (n1:Nxt a b p) (n2:Nxt c d q) (l1:c<p.b) (l2:b<q.a) (l:p.b<q.a) (k:Jv b0 p.a p.b c d U (q::W) R):Jv b0 a b c d (p::U) (q::W) R
 |right {b0 a b c d:Int}{p q:Pt}{U W R:aq Pt} (n1:Nxt a b p) (n2:Nxt c d q) (l1:c<p.b) (l2:b<q.a) (l:q.a<p.b) (k:Jv b0 a b q.a q.b (p::U) W R):Jv b0 a b c d (p::U) (q::W) R
def cD(w:ec)(S:aq Iv):Int:=S.rec 0 λi q r=>(bif (i.w==w) then i.g else 0)+r
class inductive Ab:Int->aq Iv->aq Iv->aq Iv->Int->Prop
 |stop {h:Int}{S:aq Iv} (k:∀ i∈S.head?,h<i.lo):Ab h S [] S h
 |go {h h':Int}{i:Iv}{S S1 S2:aq Iv} (l:i.lo<=h) (k:Ab (max h i.hi) S S1 S2 h'):Ab h (i::S) (i::S1) S2 h'
class inductive Fo:Int->Int->aq Iv->aq Hd->Prop
 |nil {m n:Int}:Fo m n [] []
 |cons {m n h':Int}{i:Iv}{S S1 S2:aq Iv}{R:aq Hd} (k:Ab i.hi (i::S) S1 S2 h') (f:Fo (m+cD false S1) (n+cD be S1) S2 R):
   Fo m n (i::S) (⟨i.lo-m,h'-(m+cD false S1),i.lo+n,h'+(n+cD be S1)⟩::R)
def Sl(S:aq Iv):Prop:=S.Pairwise λi j=>i.lo<=j.lo
structure Cov(b0 b':Int)(S:aq Iv):Prop where
 lo:∀ i∈S,b0<i.lo/\i.lo<=i.hi/\i.hi<=b'
 cov:∀ x,b0<x->x<b'->∃ i∈S,i.lo<=x/\x<i.hi
theorem ab_gap(s:b0<b')(hT:∀ i∈T.head?,b'<i.lo)(b:Sl (i::S))(c:Cov b0 b' (i::S)):i.lo=b0+1/\Ab i.hi ((i::S)++T) (i::S) T b':=by
 refine xA (et.mp b) λs1 s2=>?_
 have l:=c.lo i c3
 have e:i.lo=b0+1:=by
  by_cases q:b'=b0+1
  ·exact zzI2 0x1052a07da00a4307da00ac31eba82aa9085a41f68002147 [b0,i.lo,i.hi,b'] ⋯ l q
  ·obtain⟨j,m,o,_⟩:=c.cov (b0+1) Y14 (zzI2 0xaaa2b07d07da00002a01f6802b0c41eba82aa9085a41f68002147 [b0,i.lo,i.hi,b'] ⋯ l q)
   rcases e6.mp m with e |m
   ·subst e;exact zzI2 0x112107da40a03aea0aaa0216807da400851c1f69028087 [j.lo,b0,j.hi,b'] ⋯ o l
   ·exact zzI3 0x82a807da00a43b2908707da00b021eba82aa9085a41f68002147 [b0,i.lo,i.hi,b',j.lo] ⋯ l o (s1 j m)
 refine⟨e,(by
  exact λ{b' T} hT=>λ{S}=>by
    induction S with
    |nil=>
     intro h _ d _ a
     by_cases q:h=b'
     ·exact rwL q (.stop hT)
     ·refine xEA (a h (c4 _) (Y44 d q)) λi m t=>?_
      exact bv m dz
    |cons i S r=>
     intro h b d g a
     obtain⟨s1,s2⟩:=et.mp b
     have n:i.lo<=h:=by
      by_cases q:h=b'
      ·exact rwL q ((g i c3).1)
      ·obtain⟨j,m,l,_⟩:=a h (c4 _) (Y44 d q)
       rcases e6.mp m with e |m
       ·exact e▸l
       ·exact dw (s1 j m) l
     refine .go n (r s2 (zzI2 0x12469aa8082a6a087a68087 [h,b',i.hi] ⋯ d ((g i c3).2)) (λj m=>g j (eh _ m)) λx f k=>?_)
     obtain⟨j,m,l,p⟩:=a x (zzI1 0xaaaaa02aa9a02087 [h,i.hi,x] ⋯ f) k
     rcases e6.mp m with e |m
     ·subst e;exact(Y41 p f).elim
     ·exact⟨j,m,l,p⟩:∀{b':Int}{T:aq Iv}(hT:∀ i∈T.head?,b'<i.lo),∀ {S:aq Iv}{h:Int},Sl S->h<=b'->(∀ i∈S,i.lo<=b'/\i.hi<=b')->(∀ x,h<=x->x<b'->∃ i∈S,i.lo<=x/\x<i.hi)->Ab h (S++T) S T b') hT b l.2.2 (λj m=>⟨dw (c.lo j m).2.1 (c.lo j m).2.2,(c.lo j m).2.2⟩) (λx f k=>c.cov x (zzI2 0x296c07da000aca821eba82aa9085a41f68002147 [b0,i.lo,i.hi,b',x] ⋯ l f) k)⟩
theorem rB(p:S.Perm T):cD w S=cD w T:=by
 induction p with
 |nil=>rfl
 |cons i p a=>exact b3 (_+ ·) a
 |swap i j l=>exact Int.add_left_comm ..
 |trans p q h k=>exact h.trans k
theorem fJ(S T:aq Iv):cD w (S++T)=cD w S+cD w T:=by
 induction S with
 |nil=>exact(kj _).symm
 |cons i S a=>exact(b3 (_+ ·) a).trans (me ..).symm
theorem aC2(h:Sl S):S=S.filter (λi=>decide (i.lo<=b'))++S.filter λi=> !decide (i.lo<=b'):=by
 induction S with
 |nil=>rfl
 |cons i S a=>
  obtain⟨s1,s2⟩:=et.mp h
  by_cases q:i.lo<=b'
  ·rw[List.filter_cons_of_pos (p:=λi:Iv=>decide (i.lo<=b')) (bm q),List.filter_cons_of_neg (by exact rwL (bm q) Bool.false_ne_true),List.cons_append,<-a s2]
  ·have z:∀ j∈i::S,¬j.lo<=b':=λj m=>by
    rcases e6.mp m with e |m
    ·exact e▸q
    ·exact zzI2 0x568a6a084aa8087a29a02107 [i.lo,b',j.lo] ⋯ q (s1 j m)
   rw[List.filter_eq_nil_iff.mpr λj m=>by exact rwL (bp (z j m)) Bool.false_ne_true,nu,List.filter_eq_self.mpr λj m=>by rw[bp (z j m)];rfl]
theorem s9{a b:Int}(m:i∈iv1 a b p):p.h=be/\i=⟨b+1,p.b,false,p.b-b-(p.a-a)⟩:=by
 unfold iv1 at m
 cases h:p.h with
 |true=>rw[h]at m;exact⟨rfl,dv.mp m⟩
 |false=>rw[h]at m;exact bv m dz
theorem s8{a b:Int}(m:i∈iv2 a b p):p.h=be/\i=⟨a+1,p.a,be,p.b-b-(p.a-a)⟩:=by
 unfold iv2 at m
 cases h:p.h with
 |true=>rw[h]at m;exact⟨rfl,dv.mp m⟩
 |false=>rw[h]at m;exact bv m dz
theorem hR{a b:Int}:ivs f (p::L) a b=f a b p++ivs f L p.a p.b:=rfl
theorem Jv.far{a b:Int}(J:Jv b0 a b c d U W R):(∀ i∈ivs iv1 U a b,b<i.lo)/\∀ i∈ivs iv2 W c d,c<i.lo:=by
 have j:∀ {a b:Int}{p:Pt}{U:aq Pt},Nxt a b p->(∀ i∈ivs iv1 U p.a p.b,p.b<i.lo)->∀ i∈ivs iv1 (p::U) a b,b<i.lo:=λn h i m=>by
  rcases e7.mp m with m |m
  ·rw[(s9 m).2];exact Int.lt_succ _
  ·exact Int.lt_trans n.nb (h i m)
 have k:∀ {a b:Int}{p:Pt}{U:aq Pt},Nxt a b p->(∀ i∈ivs iv2 U p.a p.b,p.a<i.lo)->∀ i∈ivs iv2 (p::U) a b,a<i.lo:=λn h i m=>by
  rcases e7.mp m with m |m
  ·rw[(s8 m).2];exact Int.lt_succ _
  ·exact Int.lt_trans n.na (h i m)
 induction J with
 |nil=>exact⟨λq m=>bv m dz,λq m=>bv m dz⟩
 |both g f _ _ _ _ _ e=>exact⟨j g e.1,k f e.2⟩
 |left g _ _ _ _ _ e=>exact⟨j g e.1,e.2⟩
 |right _ f _ _ _ _ e=>exact⟨e.1,k f e.2⟩
structure Acc(a0 b0 c0 a b c d:Int)(acc:aq Iv):Prop where
 b0b:b0<=b
 b0c:b0<=c
 lo:∀ i∈acc,b0<i.lo/\i.lo<=i.hi/\(i.hi<=b\/i.hi<=c)
 cov:∀ x,b0<x->x<=b->x<=c->∃ i∈acc,i.lo<=x/\x<i.hi
 s0:cD false acc=b-b0-(a-a0)
 s1:cD be acc=d-c0-(c-b0)
 no:b=b0->c=b0->acc= []
theorem oE{a b:Int}(n:Nxt a b p):cD false (iv1 a b p)=p.b-b-(p.a-a)/\cD be (iv1 a b p)=0:=by
 delta iv1
 cases h:p.h with
 |true=>exact⟨jq _,rfl⟩
 |false=>exact⟨by exact Y34 (n.nh h),rfl⟩
theorem oC{a b:Int}(n:Nxt a b p):cD be (iv2 a b p)=p.b-b-(p.a-a)/\cD false (iv2 a b p)=0:=by
 delta iv2
 cases h:p.h with
 |true=>exact⟨jq _,rfl⟩
 |false=>exact⟨by exact Y34 (n.nh h),rfl⟩
theorem aEz{a b:Int}(n:Nxt a b p)(h1:b<x)(h2:x<p.b):∃ i∈iv1 a b p,i.lo<=x/\x<i.hi:=by
 delta iv1
 cases h:p.h with
 |true=>exact⟨_,List.mem_singleton_self _,h1,h2⟩
 |false=>exact(Y33 h1 h2 (n.nh h)).elim
theorem aEy{a b:Int}(n:Nxt a b p)(h1:a<x)(h2:x<p.a):∃ i∈iv2 a b p,i.lo<=x/\x<i.hi:=by
 delta iv2
 cases h:p.h with
 |true=>exact⟨_,List.mem_singleton_self _,h1,h2⟩
 |false=>exact(Y32 h1 h2 (n.nh h)).elim
theorem Acc.left{a b:Int}(A:Acc a0 b0 c0 a b c d acc)(n:Nxt a b p)(l:c<p.b):Acc a0 b0 c0 p.a p.b c d (acc++iv1 a b p) where
 b0b:=dw A.b0b (jd n.nb)
 b0c:=A.b0c
 lo:=λi m=>by
  rcases e7.mp m with m |m
  ·refine xAA (A.lo i m) λh1 f e=>?_
   exact⟨h1,f,zzI2 0x915aea0a9a821aba82a2a0861e907da00087 [b,p.b,i.hi,c] ⋯ n.nb e⟩
  ·exact rwL ((s9 m).2) ⟨by exact(Y24 A.b0b:b0<b+1),by exact(Y23 n.nb:b+1<=p.b),.inl (c4 _)⟩
 cov:=λx h1 f e=>by
  by_cases q:x<=b
  ·obtain⟨i,m,h⟩:=A.cov x h1 q e
   exact⟨i,ka _ m,h⟩
  ·obtain⟨i,m,h⟩:=aEz n (Y19 q) (Y29 l e)
   exact⟨i,jr _ m,h⟩
 s0:=by rw[fJ,A.s0,(oE n).1];exact Y27
 s1:=by rw[fJ,A.s1,(oE n).2];exact Y28
 no:=λe=>by omega
theorem Acc.right{a b:Int}(A:Acc a0 b0 c0 a b c d acc)(n:Nxt c d q)(l:b<q.a):Acc a0 b0 c0 a b q.a q.b (acc++iv2 c d q) where
 b0b:=A.b0b
 b0c:=dw A.b0c (jd n.na)
 lo:=λi m=>by
  rcases e7.mp m with m |m
  ·refine xAA (A.lo i m) λh1 f g=>?_
   exact⟨h1,f,zzI2 0x94aa6a0aba821a8a82aea0861e907da00087 [c,q.a,i.hi,b] ⋯ n.na g⟩
  ·exact rwL ((s8 m).2) ⟨by exact(Y24 A.b0c:b0<c+1),by exact(Y23 n.na:c+1<=q.a),.inr (c4 _)⟩
 cov:=λx h1 f g=>by
  by_cases z:x<=c
  ·obtain⟨i,m,h⟩:=A.cov x h1 f z
   exact⟨i,ka _ m,h⟩
  ·obtain⟨i,m,h⟩:=aEy n (Y19 z) (Y29 l f)
   exact⟨i,jr _ m,h⟩
 s0:=by rw[fJ,A.s0,(oC n).2];exact Y28
 s1:=by rw[fJ,A.s1,(oC n).1];exact Y27
 no:=λj e=>by omega
theorem Acc.new{a b:Int}:Acc a b d a b b d [] where
 b0b:=c4 _
 b0c:=c4 _
 lo:=λq m=>bv m dz
 cov:=λx e c q=>bv e (kz.mpr c)
 s0:=by exact Y26
 s1:=by exact Y26
 no:=λq q=>rfl
theorem Acc.gap{a b:Int}(A:Acc a0 b0 c0 a b c d acc)(j:Nxt a b p)(g:Nxt c d q)(l:c<p.b)(n:b<q.a)(e:p.b=q.a):Cov b0 p.b (acc++iv1 a b p++iv2 c d q) where
 lo:=λi m=>by
  rcases e7.mp m with m |m
  ·rcases e7.mp m with m |m
   ·refine xAA (A.lo i m) λh1 f k=>?_
    exact⟨h1,f,zzI4 0xa92928b02aec0aab02187a41f6b0021e807da80087a680c7 [p.b,q.a,b,c,i.hi] ⋯ e j.nb g.na k⟩
   ·exact rwL ((s9 m).2) ⟨by exact(Y24 A.b0b:b0<b+1),by exact(Y23 j.nb:b+1<=p.b),c4 _⟩
  ·exact rwL ((s8 m).2) ⟨by exact(Y24 A.b0c:b0<c+1),by exact(Y23 g.na:c+1<=q.a),by exact(zzI1 0x2a8a42a680c7 [p.b,q.a] ⋯ e:q.a<=p.b)⟩
 cov:=λx h1 f=>by
  by_cases z:b<x
  ·refine xEA (aEz j z f) λi m h=>?_
   exact⟨i,ka _ (jr _ m),h⟩
  ·by_cases y:c<x
   ·obtain⟨i,m,h⟩:=aEy g y (zzI2 0xa6907da800a807da80087a680c7 [p.b,q.a,x] ⋯ e f)
    exact⟨i,jr _ m,h⟩
   ·obtain⟨i,m,h⟩:=A.cov x h1 (Y20 z) (Y20 y)
    exact⟨i,ka _ (ka _ m),h⟩
def lns(m:Nat):Int->aq Int:=m.rec (λq=>[]) λq r i=>i::r (i+1)
def frs(m:Nat):Int->Int->ec->aq Pt:=m.rec (λq q q=>[]) λq r i j h=>⟨i,j,h⟩::r (i+1) (j+1) false
def carr(n:Int)(l:aq Op):ec->Int->bc Int:=l.rec (λq q=>ba) λc cs r f x=>
 bif c.tag.isEq && (decide (c.i1<=x) && decide (x<c.i2)) && ((f || decide (n<=x-c.i1)) && (cs.isEmpty || decide (n<c.i2-x))) then am (x-c.i1+c.j1) else r false x
def Pt.ab(p:Pt):Int×Int:=(p.a,p.b)
def gpt(f:Int->bc Int)(x:Int):bc (Int×Int):=(f x).map λy=>(x,y)
class inductive Chn:Int->Int->aq Pt->Int->Int->Prop
 |nil {a b:Int}:Chn a b [] a b
 |cons {a b A B:Int}{p:Pt}{P:aq Pt} (n:Nxt a b p) (h:p.h=be->¬(p.a=a+1/\p.b=b+1)) (k:Chn p.a p.b P A B):Chn a b (p::P) A B
theorem Chn.app{a b:Int}(h:Chn a b P c d)(k:Chn c d Q e f):Chn a b (P++Q) e f:=by
 induction h with
 |nil=>exact k
 |cons n h _ g=>exact .cons n h (g k)
theorem zZ{m:Nat}:∀ {i j:Int},Chn (i-1) (j-1) (frs m i j false) (i-1+m) (j-1+m):=by
 induction m with
 |zero=>intro i j;exact rwL (show i-1+((0:Nat):Int)=i-1 by exact Y135) (rwL (show j-1+((0:Nat):Int)=j-1 by exact Y135) .nil)
 |succ m a=>
  intro i j
  have:= @a (i+1) (j+1)
  rw[show i+1-1=i by exact Y124,show j+1-1=j by exact Y124,show i+(m:Int)=i-1+((m+1:Nat):Int) by exact Y134,show j+(m:Int)=j-1+((m+1:Nat):Int) by exact Y134]at this
  exact .cons ⟨by exact(Y137:i-1<i),by exact(Y137:j-1<j),λq=>⟨by exact(Y136:i=i-1+1),by exact(Y136:j=j-1+1)⟩⟩ (λh=>(Bool.false_ne_true h).elim) this
theorem zY{m:Nat}{P:aq Pt}:∀ {i j:Int},hds (frs m i j false++P) (i-1) (j-1)=hds P (i-1+m) (j-1+m):=by
 induction m with
 |zero=>intro i j;rw[show i-1+((0:Nat):Int)=i-1 by exact Y135,show j-1+((0:Nat):Int)=j-1 by exact Y135];rfl
 |succ m a=>
  intro i j
  have:= @a (i+1) (j+1)
  rw[show i+1-1=i by exact Y124,show j+1-1=j by exact Y124,show i+(m:Int)=i-1+((m+1:Nat):Int) by exact Y134,show j+(m:Int)=j-1+((m+1:Nat):Int) by exact Y134]at this
  exact this
theorem eB{m:Nat}:∀ {i:Int},(∀ x,i<=x->x<i+m->f x=ba)->(lns m i).filterMap (gpt f)= []:=by
 induction m with
 |zero=>exact λq=>rfl
 |succ m c=>
  intro i h
  exact(rwL (iz (by delta gpt;rw[h i (c4 _) Y129];rfl)) (c λx a b=>h x (Y128 a) (Y127 b)):qs _ (i::lns m (i+1))= [])
theorem lK{m:Nat}:∀ {i j:Int}{t:ec},(∀ x,i<=x->x<i+m->f x=am (x-i+j))->(lns m i).filterMap (gpt f)=(frs m i j t).map Pt.ab:=by
 induction m with
 |zero=>exact λq=>rfl
 |succ m c=>
  intro i j t h
  exact(rwL (ik (by delta gpt;rw[h i (c4 _) Y129,show i-i+j=j by exact (zzI0 0x169a68a01003 [i,j] ⋯)];rfl)) (b3 (_::·) (c λx a b=>(rwL (h x (Y128 a) (Y127 b)) (b3 am (zzI0 0x141f6a001f69028040aa9a01003 [x,i,j] ⋯))))):qs _ (i::lns m (i+1))=(i,j)::(frs m (i+1) (j+1) false).map Pt.ab)
theorem gU:∀ {i:Int},lns (m+k) i=lns m i++lns k (i+m):=by
 induction m with
 |zero=>intro i;rw[Nat.zero_add,show i+((0:Nat):Int)=i by exact (zzI0 0x5a2803d128003 [i] ⋯)];rfl
 |succ m a=>
  intro i
  rw[Nat.add_right_comm,show i+((m+1:Nat):Int)=i+1+(m:Int) by exact Y130]
  exact b3 (i::·) a
theorem rJ{m:Nat}:∀ {i:Int},(∀ x,i<=x->x<i+m->f x=g x)->(lns m i).filterMap (gpt f)=(lns m i).filterMap (gpt g):=by
 induction m with
 |zero=>exact λq=>rfl
 |succ m c=>
  intro i h
  have e:gpt f i=gpt g i:=by delta gpt;rw[h i (c4 _) Y129]
  show qs _ (i::lns m (i+1))=qs _ (i::lns m (i+1))
  rw[qe,qe,e,c λx a b=>h x (Y128 a) (Y127 b)]
theorem lY:∀ {f:ec}{x:Int},(∀ c∈l,x<c.i1)->carr n l f x=ba:=by
 induction l with
 |nil=>exact λq=>rfl
 |cons c l a=>
  intro f x h
  show(bif _ && (decide (c.i1<=x) && _) && _ then _ else carr n l false x)=ba
  rw[bp (zzI1 0x5a28a4212907da00087 [x,c.i1] ⋯ (h c c3): ¬c.i1<=x),Bool.false_and,Bool.and_false,Bool.false_and]
  exact a λd m=>h d (eh _ m)
theorem iT(h:c.tag.isEq=false):carr n (c::l) f x=carr n l false x:=by
 show(bif c.tag.isEq && _ && _ then _ else carr n l false x)=_
 refine rwL h ?_;rfl
theorem oY(h1:i<=x)(h2:x<i+k)(d:f=be\/n<=x-i)(b:l= []\/n<i+k-x):carr n (eqO i j k::l) f x=am (x-i+j):=by
 show(bif (be && (decide (i<=x) && decide (x<i+k))) && ((f || decide (n<=x-i)) && (l.isEmpty || decide (n<i+k-x))) then am (x-i+j) else _)=_
 have c:(f || decide (n<=x-i))=be:=by
  rcases d with h |h
  ·rw[h];rfl
  ·rw[bm h,Bool.or_true]
 have a:(l.isEmpty || decide (n<i+k-x))=be:=by
  rcases b with h |h
  ·rw[h];rfl
  ·rw[bm h,Bool.or_true]
 refine rwL (bm h1) (rwL (bm h2) (rwL c (rwL a ?_)));rfl
theorem jV(h: ¬((f=be\/n<=x-i)/\(l= []\/n<i+k-x))):carr n (eqO i j k::l) f x=carr n l false x:=by
 show(bif (be && (decide (i<=x) && decide (x<i+k))) && ((f || decide (n<=x-i)) && (l.isEmpty || decide (n<i+k-x))) then am (x-i+j) else carr n l false x)=_
 have e:((f || decide (n<=x-i)) && (l.isEmpty || decide (n<i+k-x)))=false:=uf.mpr λz=>by
  obtain⟨b,a⟩:=du.mp z
  exact h ⟨(Bool.or_eq_true_iff.mp b).imp_right cb,(Bool.or_eq_true_iff.mp a).imp List.isEmpty_iff.mp cb⟩
 rw[e,Bool.and_false];rfl
def hd4(g:aq Op):Hd:=⟨s1 g,s2 g,t1 g,t2 g⟩
structure Stp(a b:aq Int)(n:Int)(f:ec)(l:aq Op)(gs:aq (aq Op))(i x y:Int)(P:aq Pt):Prop where
 hd:hds P x y=gs.map hd4
 chn:Chn x y P a.length b.length
 ln:P.map Pt.ab=(lns (a.length-i).toNat i).filterMap (gpt (carr n l f))++[((a.length:Int),(b.length:Int))]
theorem vX:hds (frs (m+1) i j be++P) x y=⟨x+1,i,y+1,j⟩::hds P (i+m) (j+m):=by
 have:= @zY m P (i+1) (j+1)
 rw[show i+1-1=i by exact Y124,show j+1-1=j by exact Y124]at this
 exact b3 (_::·) this
theorem aFl(b:x<i)(a:y<j)(h: ¬(i=x+1/\j=y+1)):Chn x y (frs (m+1) i j be) (i+m) (j+m):=by
 have:= @zZ m (i+1) (j+1)
 rw[show i+1-1=i by exact Y124,show j+1-1=j by exact Y124]at this
 exact .cons ⟨b,a,(λh=>(Bool.false_ne_true h.symm).elim)⟩ (λq=>h) this
theorem Cod.ge(h:Cod a b f i j l):∀ c∈l,i<=c.i1:=by
 induction h with
 |nil=>exact λc m=>bv m dz
 |eq n p m h g=>
  intro c d
  rcases e6.mp d with e |d
  ·exact rwL e (c4 _)
  ·exact zzI2 0x56aa42aa8a40087a01f40f40087 [k,i_1,c.i1] ⋯ p (g c d)
 |ch n q k o r h g=>
  intro c d
  rcases e6.mp d with e |d
  ·exact rwL e (c4 _)
  ·exact zzI2 0x56aa02aa9087a68087 [i_1,i',c.i1] ⋯ k (g c d)
theorem Cod.lea(h:Cod a b f i j l):i<=a.length:=by
 induction h with
 |nil=>exact c4 _
 |eq d p m h c=>exact Y121 p c
 |ch d k e g n h c=>exact Y120 e c
theorem Cod.chi(h:Cod a b f i j (chO g i j c d::l))(k:g.isEq=false):(i<c\/j<d)/\Cod a b (am false) c d l:=by
 generalize e:chO g i j c d::l=L at h
 cases h with
 |nil=>cases e
 |eq o p m h=>cases e;cases k
 |ch o k r q n h=>cases e;exact⟨n,h⟩
theorem Cod.two(h:Cod a b f i j (eqO i j k::chO g (i+k) (j+k) c d::l))(n:g.isEq=false):(i+k<c\/j+k<d)/\Cod a b (am false) c d l:=by
 generalize e:eqO i j k::chO g (i+k) (j+k) c d::l=L at h
 cases h with
 |nil=>cases e
 |eq r p m h=>
  obtain⟨o,q⟩:=List.cons.inj e
  have:=Int.add_left_cancel (b3 Op.i2 o)
  subst this q
  exact h.chi n
 |ch r n u s t h=>cases e;exact bv rfl n
theorem Cod.lines(h:Cod a b z i j (eqO i j k::chO g (i+k) (j+k) d q::l))(s:g.isEq=false)(p:0<k)(v:i+k<=d):(lns (a.length-i).toNat i).filterMap (gpt (carr n (eqO i j k::chO g (i+k) (j+k) d q::l) f))=(lns k.toNat i).filterMap (gpt (carr n (eqO i j k::chO g (i+k) (j+k) d q::l) f))++(lns (a.length-d).toNat d).filterMap (gpt (carr n l false)):=by
 have c:=(h.two s).2
 obtain⟨u,m⟩:∃ u:Nat,d=i+k+u:=⟨(d-i-k).toNat,zzI1 0x4a9128a29a2a041104a68000a83aa9a00087 [i,k,d] ⋯ v⟩
 have e:∀ x,i+k<=x->carr n (eqO i j k::chO g (i+k) (j+k) d q::l) f x=carr n l false x:=λx y=>by rw[(by
  intro n c l f x h
  show(bif _ && (_ && decide (x<c.i2)) && _ then _ else carr n l false x)=_
  rw[bp (Y125 h: ¬x<c.i2),Bool.and_false,Bool.and_false,Bool.false_and];rfl:∀{n:Int}{c:Op}{l:aq Op}{f:ec}{x:Int}(h:c.i2<=x),carr n (c::l) f x=carr n l false x) y,iT s]
 rw[show ((a.length:Int)-i).toNat=k.toNat+(u+((a.length:Int)-d).toNat) by exact Y118 p c.lea m,gU,gU,je,je,eB λx r t=>(e x (zzI1 0xaaaaa68002aa8a29104a00087 [i,k,x] ⋯ r)).trans (lY λo w=>iw (Y116 p m t) (c.ge o w)),nu]
 exact rwL (show i+((k.toNat:Nat):Int)+(u:Int)=d by exact Y115 p m) (b3 (_++ ·) (rJ λx r t=>e x (Y114 m r)))
theorem Gk.pts(X:0<=n)(h:Gk n a b cur i j f gs):∀ {x y:Int},Cod a b (am false) i j f->0<=i->s1 cur=x+1->t1 cur=y+1->cur≠ []->s2 cur=i->t2 cur=j->x+1<=i->y+1<=j->(x+1<i\/y+1<j)->∃ P,Stp a b n false f gs i x y P:=by
 induction h with
 | @e0 cur=>
  intro x y c _ E H A M L s C J
  refine⟨[⟨a.length,b.length,be⟩],?_,.cons ⟨by exact(Y113 s:x<(a.length:Int)),by exact(Y113 C:y<(b.length:Int)),nofun⟩ (λZ=>by show¬((a.length:Int)=_/\(b.length:Int)=_);exact Y112 J) .nil,?_⟩
  ·show [Hd.mk (x+1) a.length (y+1) b.length]= [Hd.mk (s1 cur) (s2 cur) (t1 cur) (t2 cur)]
   rw[E,H,M,L]
  ·rw[Int.sub_self];rfl
 | @e1 cur i j k p m W N=>
  intro x y c K E H A M L s C J
  have e1:s2 (cur++[(eqO i j k).hd n])=i+min k n:=by rw[lD,rO];rfl
  have Q:t2 (cur++[(eqO i j k).hd n])=j+min k n:=by rw[lB,rO];rfl
  have t: [cur++[(eqO i j k).hd n]].map hd4= [⟨x+1,i+min k n,y+1,j+min k n⟩]:=by
   show [Hd.mk _ _ _ _]=_
   rw[e1,Q,wY A,wT A,E,H]
  have I:=Y111 W
  by_cases q:k<=n
  ·refine⟨[⟨a.length,b.length,be⟩],?_,.cons ⟨by exact(Y110 p s I:x<(a.length:Int)),by exact(Y109 p N C:y<(b.length:Int)),nofun⟩ (λZ=>by show¬((a.length:Int)=_/\(b.length:Int)=_);exact Y108 p s I) .nil,?_⟩
   ·rw[t,su q,W,N];rfl
   ·rw[I,eB λz r l=>(jV λz=>z.1.elim Bool.false_ne_true λz3=>Y107 q r l z3).trans rfl];rfl
  ·obtain⟨u,e⟩:∃ u:Nat,k=n+(u+1:Nat):=⟨(k-n-1).toNat,zzI1 0x4a912807da01f69a01044004a40a03a29a02107 [k,n] ⋯ q⟩
   obtain⟨v,d⟩:∃ v:Nat,n=v:=⟨n.toNat,Y60 X⟩
   refine⟨frs (u+1) (i+n) (j+n) be++[⟨a.length,b.length,false⟩],?_,(aFl (Y87 s d) (Y87 C d) (Y86 J d)).app (.cons ⟨by exact(Y105 I e d:i+n+(u:Int)<(a.length:Int)),by exact(Y104 N e:j+n+(u:Int)<(b.length:Int)),λZ=>⟨by exact Y103 I e d,by exact Y102 N e⟩⟩ (λh=>(Bool.false_ne_true h).elim) .nil),?_⟩
   ·rw[t,m3 (Y101 e),vX];rfl
   ·rw[I,show k.toNat=v+(u+1) by exact Y100 e d,gU,je,eB λz r l=>(jV λz=>z.1.elim Bool.false_ne_true λz3=>Y83 d l z3).trans rfl,nu,bI,d,lK λz r l=>?_]
    ·rfl
    ·exact rwL (oY (Y80 r) (Y99 e d l) (.inr (Y78 r)) (.inl rfl)) (b3 am Y76)
 | @join cur i j k D F g f gs p S m t B T h U=>
  intro x y c K E H A M L s C J
  have c2:=c.two t
  obtain⟨P,R,G,V⟩:=U c2.2 (zzI3 0x156a03d0a903d087aa8a40087a01f40f40087 [k,i,D] ⋯ p B K) (by rw[wY A];exact E) (by rw[wT A];exact H) (List.append_ne_nil_of_left_ne_nil A _) (by rw[show ∀ o,cur++[o,chO g (i+k) (j+k) D F]=(cur++[o])++[chO g (i+k) (j+k) D F] from λo=>by rw[dt];rfl,lD];rfl) (by rw[show ∀ o,cur++[o,chO g (i+k) (j+k) D F]=(cur++[o])++[chO g (i+k) (j+k) D F] from λo=>by rw[dt];rfl,lB];rfl) (Y97 p B s) (Y97 p T C) (zzI4 0x129296e07d07dac0002b41f41f69000086b81f68b00002b41f68a80002187b01f6b0021ea07da40087a01f40f40087 [k,x,i,y,j,D,F] ⋯ p s C c2.1)
  refine⟨P,R,G,?_⟩
  rw[V,c.lines t p B,eB (m:=k.toNat) λz r l=>?_,nu]
  exact rwL (jV (λz=>by
   rcases z.1 with y |y
   ·cases y
   ·rcases z.2 with w |w
    ·cases w
    ·exact Y95 S y w)) (rwL (iT t) (lY λo O=>iw (zzI3 0x4946a07dac00a8a29104a0007dac0087ae8087aa9a00087 [i,k,D,z] ⋯ B r l) (c2.2.ge o O)))
 | @cut cur i j k D F g f gs p S m t B T h U=>
  intro x y c K E H A M L s C J
  have c2:=c.two t
  obtain⟨u,e⟩:∃ u:Nat,k=n+n+(u+1:Nat):=⟨(k-n-n-1).toNat,zzI1 0x12a44a01f6807da28a41041100128a000290e907da28000087 [n,k] ⋯ S⟩
  obtain⟨v,d⟩:∃ v:Nat,n=v:=⟨n.toNat,Y60 X⟩
  obtain⟨P,R,G,V⟩:= @U (i+n+u) (j+n+u) c2.2 (Y92 B K e d) (by exact rwL (aCs (Y88 e d)) (Y91 e:i+(k-n)=i+n+u+1)) (by exact rwL (aCs (Y88 e d)) (Y91 e:j+(k-n)=j+n+u+1)) (m0 _ _) rfl rfl (Y90 B e d) (Y90 T e d) (Y89 c2.1 e d)
  have e1:s2 (cur++[(eqO i j k).hd n])=i+n:=by rw[lD,rO,m3 (Y88 e d)];rfl
  have Q:t2 (cur++[(eqO i j k).hd n])=j+n:=by rw[lB,rO,m3 (Y88 e d)];rfl
  refine⟨frs (u+1) (i+n) (j+n) be++P,?_,(aFl (Y87 s d) (Y87 C d) (Y86 J d)).app G,?_⟩
  ·rw[vX,R]
   show _=Hd.mk _ _ _ _::_
   rw[e1,Q,wY A,wT A,E,H]
  ·have Y:∀ z,z<D->¬((false=be\/n<=z-i)/\(chO g (i+k) (j+k) D F::f= []\/n<i+k-z))->carr n (eqO i j k::chO g (i+k) (j+k) D F::f) false z=ba:=λz r l=>by
    exact rwL (jV l) (rwL (iT t) (lY λo O=>iw r (c2.2.ge o O)))
   rw[c.lines t p B,show k.toNat=v+((u+1)+v) by exact Y85 e d,gU,gU,je,je,eB λz r l=>Y z (Y84 B e d l) λy=>y.1.elim Bool.false_ne_true λw=>Y83 d l w,
    eB λz r l=>Y z (Y82 B e d l) λy=>y.2.elim (λw=>by cases w) λw=>Y81 e d r w,nu,gz,bI,V,d,lK (i:=i+v) λz r l=>?_,dt]
   exact rwL (oY (Y80 r) (Y79 e d l) (.inr (Y78 r)) (.inr (Y77 e d l))) (b3 am Y76)
theorem Cod.nil0(h:Cod a b f i j []):i=a.length/\j=b.length:=h.end rfl
theorem Cod.one0(h:Cod a b f i j [eqO i j k]):0<k/\i+k=a.length/\j+k=b.length:=by
 generalize e: [eqO i j k]=L at h
 cases h with
 |nil=>cases e
 |eq l p m h=>
  obtain⟨d,g⟩:=List.cons.inj e
  have:=Int.add_left_cancel (b3 Op.i2 d)
  subst this g
  exact⟨p,h.nil0.1,h.nil0.2⟩
 |ch l c q n o h=>cases e;exact bv rfl c
theorem qE{m:Nat}:Chn (-1) (-1) (frs m 0 0 false) ((m:Int)-1) ((m:Int)-1):=by
 exact (rwR (show (0:Int)-1+(m:Int)=(m:Int)-1 by exact Y75) (@zZ m 0 0))
theorem qD{m:Nat}{P:aq Pt}:hds (frs m 0 0 false++P) (-1) (-1)=hds P ((m:Int)-1) ((m:Int)-1):=by
 exact (rwR (show (0:Int)-1+(m:Int)=(m:Int)-1 by exact Y75) (@zY m P 0 0))
theorem Gp.pts(J:0<=n)(h:Gp n a b l gs)(c:Cod a b ba 0 0 l):∃ P,Stp a b n be l gs 0 (-1) (-1) P:=by
 cases h with
 |no h e=>
  have H:∀ {z:Nat},(a.length:Int)=z->(b.length:Int)=z->(∀ x:Int,0<=x->x<0+z->carr n l be x=am (x-0+0))->∃ P,Stp a b n be l [] 0 (-1) (-1) P:=λ{z} N S k=>
   ⟨frs z 0 0 false++[⟨a.length,b.length,false⟩],by rw[qD];rfl,qE.app (.cons ⟨by exact Y74 N,by exact Y74 S,λV=>⟨by exact Y73 N,by exact Y73 S⟩⟩ (λh=>(Bool.false_ne_true h).elim) .nil),by
    rw[bI,show ((a.length:Int)-0).toNat=z by exact zzM1 0xa91491a6803da28101101a29128a040c7 [a.length,z] ⋯ N,lK k];rfl⟩
  rcases h with h |⟨k,h⟩
  ·subst h
   exact H c.nil0.1.symm c.nil0.2.symm λx F E=>(Y71 F E).elim
  ·subst h
   refine xAA c.one0 λk0 U R=>?_
   obtain⟨z,O⟩:∃ z:Nat,k=z:=⟨k.toNat,Y70 R⟩
   exact H (Y69 U O) (Y69 R O) λx F E=>oY F (Y68 O E) (.inl rfl) (.inl rfl)
 | @ch g i j r gs D t K h=>
  have c2:=c.chi D
  obtain⟨P,G,s,I⟩:=h.pts J c2.2 t rfl rfl (m0 _ _) rfl rfl (Y67 t) (Y67 K) (zzI1 0x496907d07da01f450000a807d07da01f45000086a41f40f400a807d03d002187 [i,j] ⋯ c2.1)
  refine⟨P,G,s,?_⟩
  obtain⟨u,d⟩:∃ u:Nat,i=u:=⟨i.toNat,Y60 t⟩
  rw[I,show ((a.length:Int)-0).toNat=u+((a.length:Int)-i).toNat by exact Y65 c2.2.lea d,gU,je,eB λx F E=>(iT D).trans (lY λo M=>iw (Y64 d E) (c2.2.ge o M)),nu,show (0:Int)+(u:Int)=i by exact Y63 d]
  exact b3 (·++_) (rJ λx F E=>(iT D).symm)
 | @eq g k i j r gs p m D t K h=>
  have T:Cod a b ba 0 0 (eqO 0 0 k::chO g (0+k) (0+k) i j::r):=by rw[kj];exact c
  have c2:=T.two D
  have L:=T.lines (n:=n) (f:=be) D p (zzI1 0x5a6803d002a68087 [k,i] ⋯ t)
  rw[kj]at L c2
  have lo:∀ z,z<i->¬((be=be\/n<=z-0)/\(chO g k k i j::r= []\/n<0+k-z))->carr n (eqO 0 0 k::chO g k k i j::r) be z=ba:=λz A B=>by
   exact rwL (jV B) (rwL (iT D) (lY λo M=>iw A (c2.2.ge o M)))
  by_cases q:n<=k
  ·obtain⟨u,d⟩:∃ u:Nat,k=u+n:=⟨(k-n).toNat,zzI1 0x4a9128a28a29044100a43a68087 [n,k] ⋯ q⟩
   obtain⟨v,C⟩:∃ v:Nat,n=v:=⟨n.toNat,Y60 J⟩
   obtain⟨P,G,s,I⟩:=h.pts J c2.2 (Y59 t d C) (by exact rwL (aCs q) (Y58 d:0+(k-n)=(u:Int)-1+1)) (by exact rwL (aCs q) (Y58 d:0+(k-n)=(u:Int)-1+1)) (m0 _ _) rfl rfl (Y57 t d C) (Y57 K d C) (Y56 c2.1 d C)
   refine⟨frs u 0 0 false++P,by rw[qD,G],qE.app s,?_⟩
   rw[L,show k.toNat=u+v by exact Y55 d C,gU,je,eB λz A B=>lo z (Y54 t d C B) λy=>y.2.elim (λw=>by cases w) λw=>Y53 d A w,gz,bI,I,lK λz A B=>oY A (Y52 d C B) (.inl rfl) (.inr (Y51 d B)),dt]
  ·have Q:(eqO 0 0 k).tl n=⟨.eq,0,0+k,0,0+k⟩:=by
    show Op.mk .eq (max 0 (0+k-n)) (0+k) (max 0 (0+k-n)) (0+k)=_
    rw[oh (zzI1 0x140f68a40f40042a29a02107 [n,k] ⋯ q)]
   obtain⟨P,G,s,I⟩:=h.pts J c2.2 (zzI2 0x15a40f42a68087a01f40f40087 [k,i] ⋯ p t) (by rw[Q];rfl) (by rw[Q];rfl) (m0 _ _) rfl rfl (Y48 p t) (Y48 p K) (zzI2 0x4a56a07d07da01f450000a907d07da01f45000086a81f68002a41f68002187a01f40f40087 [k,i,j] ⋯ p c2.1)
   refine⟨P,G,s,?_⟩
   rw[L,eB λz A B=>lo z (zzI3 0x4946907da800a8a2810403d001f6a0021ea03d087a68087 [k,i,z] ⋯ t A B) λy=>y.2.elim (λw=>by cases w) λw=>zzI3 0x15a2aa40f40041f680021ea03d087a29a02107 [n,k,z] ⋯ q A w,nu]
   exact I
noncomputable abbrev vh(v:aq Int):Int:=v.headD 0
noncomputable abbrev vl(v:aq Int):Int:=v.getLastD 0
def ones(p v:aq Int):ec:=p.rec (λq=>be) (λx q r v=>v.casesOn be λy v=>decide (y-x=1) && r v) v
def vpt(p v:aq Int):Pt:=⟨vh v,vl v, !ones p v⟩
def vpts(L:aq (aq Int)):aq Int->aq Pt:=L.rec (λq=>[]) λv q r p=>vpt p v::r v
class inductive VC(k:Nat):aq Int->aq (aq Int)->aq Int->Prop
 |nil {p:aq Int} (e:p.length=k):VC k p [] p
 |cons {p v e:aq Int}{L:aq (aq Int)} (h:p.length=k) (h1:vh p<vh v) (h2:vl p<vl v) (t:VC k v L e):VC k p (v::L) e
theorem VC.len(h:VC k p L e):p.length=k/\∀ v∈L,v.length=k:=by
 induction h with
 |nil e=>exact⟨e,λq m=>bv m dz⟩
 |cons h b c t a=>exact⟨h,λv m=>(e6.mp m).elim (λe=>e▸a.1) (a.2 v)⟩
theorem VC.gt(h:VC k p L e):∀ v∈L,vh p<vh v/\vl p<vl v:=by
 induction h with
 |nil e=>exact λq m=>bv m dz
 |cons h a b t c=>exact λv m=>(e6.mp m).elim (λe=>e▸⟨a,b⟩) λm=>⟨Int.lt_trans a (c v m).1,Int.lt_trans b (c v m).2⟩
theorem kG(h:w≠ [])(u:aq Int):vl (u++w)=vl w:=by
 induction u with
 |nil=>rfl
 |cons x u a=>
  show vl (x::(u++w))=vl w
  cases q:u++w with
  |nil=>exact bv (List.append_eq_nil_iff.mp q).2 h
  |cons y t=>rw[q]at a;exact a
theorem aDn:∀ _:p.length=v.length,ones (p++q) (v++w)=(ones p v && ones q w):=by
 induction p generalizing v with
 |nil=>
  intro h
  cases v with
  |nil=>rfl
  |cons=>cases h
 |cons x p a=>
  intro h
  cases v with
  |nil=>cases h
  |cons y v=>
   show(decide (y-x=1) && ones (p++q) (v++w))=(decide (y-x=1) && ones p v && ones q w)
   rw[a (Nat.succ.inj h),Bool.and_assoc]
theorem rF:∀ _:p.length=v.length,p≠ []->ones p v=be->vh v=vh p+1/\vl v=vl p+1:=by
 induction p generalizing v with
 |nil=>exact λq h=>bv rfl h
 |cons x p c=>
  intro h z e
  cases v with
  |nil=>cases h
  |cons y v=>
   obtain⟨a,b⟩:=du.mp e
   have a:=cb a
   refine⟨by exact(Y161 a:y=x+1),?_⟩
   cases p with
   |nil=>cases v with
    |nil=>exact(Y161 a:y=x+1)
    |cons=>cases h
   |cons d p=>cases v with
    |nil=>cases h
    |cons f v=>exact(c (Nat.succ.inj h) (m0 _ _) b).2
theorem yT(k0:0<k)(h:p.length=k)(g:v.length=k)(h1:vh p<vh v)(h2:vl p<vl v):Nxt (vh p) (vl p) (vpt p v):=⟨h1,h2,λe=>rF (h.trans g.symm) (λz=>by rw[z]at h;subst h;exact bv k0 (Nat.lt_irrefl _)) (by
  cases q:ones p v with
  |true=>rfl
  |false=>change (!ones p v)=false at e;cases (q▸e))⟩
def bN(U W:aq (aq Int)):aq (aq Int):=U.filterMap λu=>(W.find? λw=>decide (vh w=vl u)).map λw=>u++w.tail
theorem lT{α β:Type}{f g:α->bc β}{l:aq α}(h:∀ x∈l,f x=g x):l.filterMap f=l.filterMap g:=by
 induction l with
 |nil=>rfl
 |cons x l a=>rw[qe,qe,h x c3,a λy m=>h y (eh _ m)]
theorem rM(h:∀ u∈U,vh w<vl u):bN U (w::W)=bN U W:=by
 delta bN
 exact lT λu m=>by rw[jD (by exact rwL (bp (by exact zzI1 0x9a29a0312907da00087 [vh w,vl u] ⋯ (h u m))) Bool.false_ne_true)]
theorem tJ{W:aq (aq Int)}(h:∀ w∈W,y<vh w):W.find? (λw=>decide (vh w=y))=ba:=List.find?_eq_none.mpr λw m=>by exact rwL (bp (by exact Y159 (h w m))) Bool.false_ne_true
theorem mA(h:p≠ []):vh (p++w)=vh p:=by cases p with |nil=>exact bv rfl h |cons=>rfl
theorem ones_c(a:p≠ [])(b:v≠ []):ones p v=(decide (vh v-vh p=1) && ones p.tail v.tail):=by
 cases p with
 |nil=>exact bv rfl a
 |cons x p=>cases v with
  |nil=>exact bv rfl b
  |cons y v=>rfl
theorem fV{p:aq Int}(k0:0<k)(h:p.length=k):p≠ []:=λz=>by rw[z]at h;subst h;exact bv k0 (Nat.lt_irrefl _)
theorem sE{w:aq Int}(a:1<m)(h:w.length=m):w.tail≠ []:=λz=>by
 have:=b3 List.length z
 rw[List.length_tail,h]at this
 exact zzM2 0x526803d07da01047a01f41f40007 [m] ⋯ a this
theorem sB(a:1<m)(h:w.length=m):vl w.tail=vl w:=by
 cases w with
 |nil=>rfl
 |cons x w=>cases w with
  |nil=>subst h;exact bv a (Nat.lt_irrefl _)
  |cons y w=>rfl
theorem VC.ends(h:VC k p L e):∀ v∈L,vh v<=vh e/\vl v<=vl e:=by
 induction h with
 |nil e=>exact λq m=>bv m dz
 | @cons p v e L h b c t a=>
  intro w m
  rcases e6.mp m with z |m
  ·refine rwL z ?_
   cases t with
   |nil=>exact⟨c4 _,c4 _⟩
   | @cons p v e L h b c t=>
    exact⟨dw (jd b) (a v c3).1,dw (jd c) (a v c3).2⟩
  ·exact a w m
theorem VC.join(k0:0<k)(D:1<m){C:aq Int}(O:vl C=vh p)(hU:VC k c U C):∀ {pw:aq Int}{W:aq (aq Int)}{pu0 pw0:aq Int},VC m pw W p->pu0.length=k->pw0.length=m->vl pu0=vh pw0-> vl pu0<=vl c/\vh pu0<=vh c->vl pu0<=vh pw/\vl pw0<=vl pw->(vl c=vl pu0->c=pu0)->(vh pw=vl pu0->pw=pw0)->(∀ u∈U,vh pw<vl u)->(∀ w∈W,vl c<vh w)->(U= []->W= []->vl c=vl pu0)-> Jv (vl pu0) (vh c) (vl c) (vh pw) (vl pw) (vpts U c) (vpts W pw) (vpts (bN U W) (pu0++pw0.tail))/\VC (k+(m-1)) (pu0++pw0.tail) (bN U W) (C++p.tail):=by
 have n:∀ {c pw pu0 pw0:aq Int},VC k c [] C->VC m pw [] p->pu0.length=k->pw0.length=m->vl c=vl pu0->(vl c=vl pu0->c=pu0)->(vh pw=vl pu0->pw=pw0)->Jv (vl pu0) (vh c) (vl c) (vh pw) (vl pw) (vpts [] c) (vpts [] pw) (vpts (bN [] []) (pu0++pw0.tail))/\VC (k+(m-1)) (pu0++pw0.tail) (bN [] []) (C++p.tail):=λhU o f g e E A=>by
  cases hU with
  |nil l3=>cases o with
   |nil l4=>
    have F:=E e
    have K:=A (Y157 O e)
    subst F K
    exact rwR O ⟨.nil,.nil (by rw[bq,List.length_tail,f,g])⟩
 have R:∀ (N:Nat){c pw:aq Int}{U W:aq (aq Int)}{pu0 pw0:aq Int},U.length+W.length<=N->VC k c U C->VC m pw W p->pu0.length=k->pw0.length=m->vl pu0=vh pw0->
  vl pu0<=vl c/\vh pu0<=vh c->vl pu0<=vh pw/\vl pw0<=vl pw->(vl c=vl pu0->c=pu0)->(vh pw=vl pu0->pw=pw0)->(∀ u∈U,vh pw<vl u)->(∀ w∈W,vl c<vh w)->(U= []->W= []->vl c=vl pu0)->
  Jv (vl pu0) (vh c) (vl c) (vh pw) (vl pw) (vpts U c) (vpts W pw) (vpts (bN U W) (pu0++pw0.tail))/\VC (k+(m-1)) (pu0++pw0.tail) (bN U W) (C++p.tail):=λN=>by
  induction N with
  |zero=>
   intro c pw U W pu0 pw0 d hU o f g e0 G r E A X V s
   have F:=ie (Y156 d)
   have K:=ie (Y155 d)
   subst F K
   exact n hU o f g (s rfl rfl) E A
  |succ N Y=>
   intro c pw U W pu0 pw0 d hU o f g e0 G r E A X V s
   cases U with
   |nil=>cases W with
    |nil=>exact n hU o f g (s rfl rfl) E A
    |cons w W=>
     cases hU with
     |nil=>exact(Y154 O (o.ends w c3) (V w c3)).elim
   |cons u U=>cases W with
    |nil=>
     have h3:=hU.ends u c3
     cases o with
     |nil=>exact(Y153 O h3 (X u c3)).elim
    |cons w W=>
     have H:=X u c3
     have c2:=V w c3
     cases hU with
     |cons h L Q t=>cases o with
      |cons h' i l j=>
       have Z:=yT k0 h t.len.1 L Q
       have S:=yT (iq qY D) h' j.len.1 i l
       have J:=t.len.1
       have M:=j.len.1
       rcases Int.lt_trichotomy (vl u) (vh w) with q |q |q
       ·
        have e:bN (u::U) (w::W)=bN U (w::W):=iz (by rw[tJ λv mv=>(e6.mp mv).elim (λz=>z▸q) λmv=>Int.lt_trans q (j.gt v mv).1];rfl)
        rw[e]
        have I:=Y (by exact zzM1 0x16a07da40a00001f6a001f69001f68000007 [U.length,W.length,N] ⋯ d) t (.cons h' i l j) f g e0 (zzI3 0x12946ca82b68085b41f690021ec07dac0087aea0a9a02147 [vl pu0,vl c,vh pu0,vh c,vh u,vl u] ⋯ G L Q) r (λz=>(Y142 r H z).elim) A (λv mv=>Int.lt_trans H (t.gt v mv).2) (λv mv=>(e6.mp mv).elim (λz=>z▸q) λmv=>Int.lt_trans q (j.gt v mv).1) (λ_ z=>by cases z)
        exact⟨.left Z S H c2 q I.1,I.2⟩
       ·
        have e:bN (u::U) (w::W)=(u++w.tail)::bN U W:=by
         show qs _ (u::U)=_
         exact rwL (ik (by rw[lq (by rw[bm q.symm])];rfl)) (b3 (_::·) (rM λv mv=>by exact Y149 q ((t.gt v mv).2)))
        have I:=Y (by exact zzM1 0x5aa9a00001f6a001f69001f68000007 [U.length,W.length,N] ⋯ d) t j J M q ⟨c4 _,c4 _⟩ ⟨vv q,c4 _⟩ (λ_=>rfl) (λ_=>rfl) (λv mv=>by exact Y149 q ((t.gt v mv).2)) (λv mv=>by exact zzI2 0xa6a07da000aa07da40087a680c7 [vl u,vh w,vh v] ⋯ q ((j.gt v mv).1)) (λ_ _=>rfl)
        refine rwL e ?_
        have e2:=(kG (sE D M) u).trans (sB D M)
        have I1:=I.1
        rw[show vl u=(vpt c u).b from rfl,show vh u=(vpt c u).a from rfl,show vh w=(vpt pw w).a from rfl,show vl w=(vpt pw w).b from rfl]at I1
        refine⟨?_,.cons (by rw[bq,List.length_tail,f,g]) (by exact rwL (mA (fV k0 J)) (rwL (mA (fV k0 f)) (Int.lt_of_le_of_lt G.2 L))) (by exact rwL e2 (rwL ((kG (sE D g) pu0).trans (sB D g)) (Int.lt_of_le_of_lt r.2 l))) I.2⟩
        have B:=Jv.both (b0:=vl pu0) (t:= !ones (pu0++pw0.tail) (u++w.tail)) Z S H c2 q ?_ I1
        ·have er:vpt (pu0++pw0.tail) (u++w.tail)=⟨(vpt c u).a,(vpt pw w).b, !ones (pu0++pw0.tail) (u++w.tail)⟩:=by
          show Pt.mk (vh (u++w.tail)) (vl (u++w.tail)) _=_
          rw[(mA (fV k0 J)),e2];rfl
         exact(rwL er B:Jv _ _ _ _ _ _ _ (vpt (pu0++pw0.tail) (u++w.tail)::vpts (bN U W) (u++w.tail)))
        ·show(!ones (pu0++pw0.tail) (u++w.tail))=be↔(vl u≠vl pu0+1\/(!ones c u)=be\/(!ones pw w)=be)
         rw[(aDn (f.trans J.symm))]
         by_cases z:vl u=vl pu0+1
         ·have F:=E (zzI3 0x20a528a4307da00b031ec07da40087aea0a9a02147 [vl pu0,vl c,vh pu0,vh c,vl u] ⋯ G Q z)
          have K:=A (zzI4 0x4052928a4307da00b431ecb431ec07da40087aea0a9a02147 [vl pu0,vh pw,vl pw0,vl pw,vh w,vl u] ⋯ r i q z)
          subst F K
          rw[ones_c (fV (iq qY D) g) (fV (iq qY D) M),bm (zzI3 0x5229281f6ba410eba831c1f6a0280c7a680c7 [vl u,vh w,vl c,vh pw] ⋯ q z e0:vh w-vh pw=1),Bool.true_and]
          have T: ¬(vl u≠vl c+1):=λy=>y z
          revert T
          generalize (vl u≠vl c+1)=P
          generalize ones c u=x
          generalize ones pw.tail w.tail=y
          intro T
          cases x with
          |false=>exact⟨λ_=>.inr (.inl rfl),λ_=>rfl⟩
          |true=>cases y with
           |false=>exact⟨λ_=>.inr (.inr rfl),λ_=>rfl⟩
           |true=>exact⟨λe=>(Bool.false_ne_true e).elim,λe=>e.elim (λe=>bv e T) λe=>e.elim id id⟩
         ·exact rwL (uf.mpr λy=>z (rF (f.trans J.symm) (fV k0 f) y).2) ⟨λ_=>.inl z,λ_=>rfl⟩
       ·have I:=Y (by exact zzM1 0x16aa41f68000001f6a001f69001f68000007 [U.length,W.length,N] ⋯ d) (.cons h L Q t) j f g e0 G (zzI3 0x14926da82b28085b41f6b0021ec07da40087aea0a9a02147 [vl pu0,vh pw,vl pw0,vl pw,vh w,vl w] ⋯ r i l) E (λz=>(Y142 r i z).elim) (λv mv=>(e6.mp mv).elim (λz=>z▸q) λmv=>Int.lt_trans q (t.gt v mv).2) (λv mv=>Int.lt_trans c2 (j.gt v mv).1) (λz=>by cases z)
        exact rwL (rM λv mv=>(e6.mp mv).elim (λz=>z▸q) λmv=>Int.lt_trans q (t.gt v mv).2) ⟨.right Z S H c2 q I.1,I.2⟩
 exact λpw W pu0 pw0=>(R _ (Nat.le_refl _) hU)
def b9(k:Nat):aq Int:=List.replicate k (-1)
theorem sC(k0:0<k):vl (b9 k)= -1:=by
 cases k with
 |zero=>exact bv k0 (Nat.lt_irrefl _)
 |succ k=>unfold vl b9;rw[List.getLastD_eq_getLast?,List.getLast?_replicate,bz (Nat.succ_ne_zero k)];rfl
theorem VC.join0(k0:0<k)(f:1<m)(i:vl d=vh c)(h:VC k (b9 k) U d)(g:VC m (b9 m) W c):Jv (-1) (-1) (-1) (-1) (-1) (vpts U (b9 k)) (vpts W (b9 m)) (vpts (bN U W) (b9 (k+(m-1))))/\VC (k+(m-1)) (b9 (k+(m-1))) (bN U W) (d++c.tail):=by
 have a:=sC k0
 have j:vh (b9 k)= -1:=by cases k with |zero=>exact bv k0 (Nat.lt_irrefl _) |succ k=>rfl
 have b:vh (b9 m)= -1:=by cases m with |zero=>exact bv f (by decide) |succ k=>rfl
 have J:=h.join k0 f i (pu0:=b9 k) (pw0:=b9 m) g List.length_replicate List.length_replicate (a.trans b.symm) ⟨c4 _,c4 _⟩ ⟨zzI2 0x1469a02a01f45a431e807d1680c7 [vl (b9 k),vh (b9 m)] ⋯ a b,c4 _⟩ (λq=>rfl) (λq=>rfl) (λu m=>by exact Y140 a b ((h.gt u m).2)) (λw m=>by exact Y139 a b ((g.gt w m).1)) λq q=>rfl
 have e:b9 k++(b9 m).tail=b9 (k+(m-1)):=by
  delta b9;rw[List.tail_replicate,List.replicate_append_replicate]
 rw[e,a,(sC (iq qY f)),j,b]at J
 exact J
def vhd(L:aq (aq Int))(k:Nat):aq Hd:=hds (vpts L (b9 k)) (-1) (-1)
def vi1(L:aq (aq Int))(k:Nat):aq Iv:=ivs iv1 (vpts L (b9 k)) (-1) (-1)
def vi2(L:aq (aq Int))(k:Nat):aq Iv:=ivs iv2 (vpts L (b9 k)) (-1) (-1)
theorem VC.fold(k0:0<k)(m1:1<m)(ee:vl eu=vh Q)(hU:VC k (b9 k) U eu)(hW:VC m (b9 m) W Q)(h:S.Perm (vi1 U k++vi2 W m))(g:Sl S):Fo 0 0 S (vhd (bN U W) (k+(m-1))):=(by
 intro b0 a b c d U W R J
 induction J with
 |nil=>
  intro a0 c0 m n acc S _ _ A h _
  have z:=A.no rfl rfl
  subst z
  exact rwL (List.Perm.eq_nil h) .nil
 |left v B I L l k K=>
  intro a0 c0 m n acc S o r A h g
  refine K o r (A.left v I) (h.trans ?_) g
  rw[hR,<-dt]
 | @right b0 a b c d p q U W R v B I L l k K=>
  intro a0 c0 m n acc S o r A h g
  refine K o r (A.right B L) (h.trans ?_) g
  rw[hR (p:=q),<-dt]
  refine List.Perm.append_right _ ?_
  rw[dt,dt]
  exact List.Perm.append_left _ List.perm_append_comm
 | @both b0 a b c d p q U W R t v B I L e ht k K=>
  intro a0 c0 m n acc S o r A h g
  have C:=A.gap v B I L e
  have F:S.Perm (acc++iv1 a b p++iv2 c d q++(ivs iv1 U p.a p.b++ivs iv2 W q.a q.b)):=by
   refine h.trans ?_
   rw[hR,hR,<-dt acc,dt (acc++iv1 a b p),dt (acc++iv1 a b p)]
   refine List.Perm.append_left _ ?_
   rw[<-dt,<-dt]
   exact List.Perm.append_right _ List.perm_append_comm
  have H:∀ i∈ivs iv1 U p.a p.b++ivs iv2 W q.a q.b,¬i.lo<=p.b:=λi m=>by
   rcases e7.mp m with m |m
   ·exact not_le.mpr (k.far.1 i m)
   ·exact not_le.mpr (e▸k.far.2 i m)
  have FA:=(by
   intro X Y P s u
   have h5:∀ i∈Y,(!P i)=be:=λi m=>by rw[u i m];rfl
   rw[List.filter_append,List.filter_append,List.filter_eq_self.mpr s,List.filter_eq_nil_iff.mpr (λi m=>by exact rwL (u i m) Bool.false_ne_true),List.filter_eq_nil_iff.mpr (λi m=>by exact rwL (s i m) Bool.false_ne_true),List.filter_eq_self.mpr h5]
   exact⟨gz _,rfl⟩:∀{X Y:aq Iv}{P:Iv->ec}(s:∀ i∈X,P i=be)(u:∀ i∈Y,P i=false),(X++Y).filter P=X/\(X++Y).filter (λi=> !P i)=Y) (λi m=>bm ((λi m=>dw (C.lo i m).2.1 (C.lo i m).2.2) i m)) (λi m=>bp (H i m))
  have p1:=F.filter λi=>decide (i.lo<=p.b)
  have p2:=F.filter λi=> !decide (i.lo<=p.b)
  rw[FA.1]at p1
  rw[FA.2]at p2
  have hT:∀ i∈(S.filter λi=> !decide (i.lo<=p.b)).head?,p.b<i.lo:=λi m=>by
   exact Y19 (H i (p2.subset (List.mem_of_mem_head? m)))
  refine xAA (List.pairwise_append.mp (rwR (aC2 (b':=p.b) g) g)) λsd1 M _=>?_
  have T:=λ{m' n'} (s:m'=q.a-p.a) (u:n'=q.b-q.a)=>K (a0:=p.a) (c0:=q.b) (acc:=[]) (s.trans (by rw[e])) (u.trans (by rw[e])) (e▸Acc.new) p2 M
  have E:=rB (w:=false) p1
  have s1:=rB (w:=be) p1
  rw[fJ,fJ,A.s0,(oE v).1,(oC B).2]at E
  rw[fJ,fJ,A.s1,(oE v).2,(oC B).1]at s1
  have N:=A.b0b
  have O:=v.nb
  rw[(aC2 (b':=p.b) g)]
  revert p1 hT sd1 E s1
  generalize S.filter (λi=>decide (i.lo<=p.b))=D
  intro p1 hT sd1 E s1
  cases t with
  |false=>
   have z:=λz=>Bool.false_ne_true (ht.mpr z)
   have Z:=Classical.not_not.mp λy=>z (.inl y)
   have e2:=uf.mpr λy=>z (.inr (.inl y))
   have nil:D= []:=by
    rw[(A.no (zzI3 0x852a8a4307da00a831ea07da40087a68087 [b0,b,p.b] ⋯ N O Z) (zzI3 0x8926aa0307da80a431e8a821e907da00087 [c,p.b,b0] ⋯ I A.b0c Z))]at p1
    unfold iv1 iv2 at p1
    rw[e2,(uf.mpr λy=>z (.inr (.inr y)))]at p1
    exact p1.eq_nil
   subst nil
   rw[nu]
   exact T (Y16 e o E rfl) (Y15 r s1 rfl)
  |true=>
   have ne:D≠ []:=λz=>by
    subst z
    have V:=List.append_eq_nil_iff.mp p1.symm.eq_nil
    rcases ht.mp rfl with y |y |y
    ·refine xEA (C.cov (b0+1) Y14 (zzI3 0x1552a07d07da00002a01f6802a0c41ea07da40087a68087 [b0,b,p.b] ⋯ N O y)) λi m _=>?_
     exact bv (rwR p1.symm.eq_nil m) dz
    ·have:=(List.append_eq_nil_iff.mp V.1).2;unfold iv1 at this;cases (y▸this)
    ·have:=V.2;unfold iv2 at this;cases (y▸this)
   cases D with
   |nil=>exact bv rfl ne
   |cons i D=>
    have G:=ab_gap (zzI2 0x56a07da000aa07da40087a68087 [b0,b,p.b] ⋯ N O) hT sd1 ⟨λj m=>C.lo j (p1.subset m),λx s u=>(C.cov x s u).imp λj y=>⟨p1.symm.subset y.1,y.2⟩⟩
    have f:=Fo.cons G.2 (T (Y11 e o E) (Y10 r s1))
    rw[G.1,show b0+1-m=a0+1 by exact zzI1 0x4a81f6a02807da40043aa90680c7 [m,b0,a0] ⋯ o,show p.b-(m+cD false (i::D))=p.a by exact zzI2 0x4952beba00b810c0f6dbc1b2e041aad069b0104002b0c7aa90680c7 [m,b0,a0,cD false (i :: D),b,a,p.b,p.a] ⋯ o E,show b0+1+n=c0+1 by exact zzI1 0x5241f6902807da80003aa90680c7 [n,c0,b0] ⋯ r,show p.b+(n+cD be (i::D))=q.b by exact zzI3 0x149249c2da80a000efa41bb004103db2f06bb8104002d0c7b2b06a0c7a680c7 [p.b,q.a,n,c0,b0,cD be (i :: D),d,c,q.b] ⋯ e r s1]at f
    exact f:∀{b0 a b c d:Int}{U W R:aq Pt}(J:Jv b0 a b c d U W R),∀ {a0 c0 m n:Int}{acc S:aq Iv},m=b0-a0->n=c0-b0->Acc a0 b0 c0 a b c d acc->S.Perm (acc++ivs iv1 U a b++ivs iv2 W c d)->Sl S->Fo m n S (hds R a0 c0)) (hU.join0 k0 m1 ee hW).1 rfl rfl Acc.new h g
def hv1(h:Hd):Iv:=⟨h.j1,h.j2,false,h.j2-h.j1-h.i2+h.i1⟩
def hv2(h:Hd):Iv:=⟨h.i1,h.i2,be,h.j2-h.j1-h.i2+h.i1⟩
theorem aE6(L:aq Pt):∀ (a b:Int),(hds L a b).map hv1=ivs iv1 L a b/\(hds L a b).map hv2=ivs iv2 L a b:=by
 induction L with
 |nil=>exact λq q=>⟨rfl,rfl⟩
 |cons p L c=>
  intro a b
  have d:hds (p::L) a b=(bif p.h then [⟨a+1,p.a,b+1,p.b⟩] else [])++hds L p.a p.b:=rfl
  rw[d,bI,bI,(c _ _).1,(c _ _).2,hR,hR]
  unfold iv1 iv2
  cases p.h with
  |false=>exact⟨rfl,rfl⟩
  |true=>
   refine⟨b3 (·++_) (b3 (λz=>[Iv.mk (b+1) p.b false z]) (Y138:p.b-(b+1)-p.a+(a+1)=p.b-b-(p.a-a))),b3 (·++_) (b3 (λz=>[Iv.mk (a+1) p.a be z]) ?_)⟩
   ·exact Y138
def v2(p:Int×Int):aq Int:=[p.1,p.2]
theorem Chn.vc(h:Chn x y P A B):VC 2 [x,y] (P.map λp=>v2 p.ab) [A,B]/\vpts (P.map λp=>v2 p.ab) [x,y]=P:=by
 induction h with
 |nil=>exact⟨.nil rfl,rfl⟩
 | @cons a b A B p P n h k c=>
  refine⟨.cons rfl n.na n.nb c.1,?_⟩
  show vpt [a,b] [p.a,p.b]::vpts (P.map λp=>v2 p.ab) [p.a,p.b]=p::P
  refine rwL c.2 (b3 (·::P) ?_)
  show Pt.mk p.a p.b (!(decide (p.a-a=1) && (decide (p.b-b=1) && be)))=p
  rw[Bool.and_true]
  have e:(!(decide (p.a-a=1) && decide (p.b-b=1)))=p.h:=by
   cases q:p.h with
   |false=>
    rw[bm (zzI1 0x112107da6804307dac0a8307da40a03147 [p.a,a,p.b,b] ⋯ (n.nh q):p.a-a=1),bm (zzI1 0x142407daea04307dac0a8307da40a03147 [p.a,a,p.b,b] ⋯ (n.nh q):p.b-b=1)];rfl
   |true=>
    by_cases z:p.a-a=1
    ·rw[bm z,bp (zzI2 0x10911216807daea043101f69a010c7a01f6b02a0c1f690280c5107 [p.a,a,p.b,b] ⋯ (h q) z: ¬p.b-b=1)];rfl
    ·rw[bp z];rfl
  rw[e]
theorem aFq{m:Nat}:∀ {i:Int},i<=y->y<i+m->(((lns m i).filterMap (gpt φ)).map v2++T).find? (λw=>decide (vh w=y))=(match φ y with |some z=>am [y,z] |none=>T.find? λw=>decide (vh w=y)):=by
 induction m with
 |zero=>intro i b c;exact(Y170 b c).elim
 |succ m f=>
  intro i b c
  show((qs (gpt φ) (i::lns m (i+1))).map v2++T).find? _=_
  by_cases q:i=y
  ·refine rwR q ?_
   have g:∀ {k:Nat}{j:Int},i<j->(((lns k j).filterMap (gpt φ)).map v2++T).find? (λw=>decide (vh w=i))=T.find? λw=>decide (vh w=i):=λ{k}=>by
    induction k with
    |zero=>exact λh=>rfl
    |succ k a=>
     intro j d
     cases e:φ j with
     |none=>exact rwL (iz (by delta gpt;rw[e];rfl)) (a (Y169 d))
     |some z=>
      exact rwL (ik (by delta gpt;rw[e];rfl)) (rwL (jD (by exact rwL (bp (show¬vh [j,z]=i by show¬j=i;exact Y159 d)) Bool.false_ne_true)) (a (Y169 d)))
   cases e:φ i with
   |none=>exact rwL (iz (by delta gpt;rw[e];rfl)) (g Y14)
   |some z=>
    rw[ik (by delta gpt;rw[e];rfl)]
    exact lq (bm rfl)
  ·cases e:φ i with
   |none=>exact rwL (iz (by delta gpt;rw[e];rfl)) (f (Y167 b q) (Y166 c))
   |some z=>
    exact rwL (ik (by delta gpt;rw[e];rfl)) (rwL (jD (by exact rwL (bp (show¬vh [i,z]=y by show¬i=y;exact zzI1 0x4968a680c4a29a03107 [i,y] ⋯ q)) Bool.false_ne_true)) (f (Y167 b q) (Y166 c)))
def ext(φ:Int->bc Int)(L:aq (aq Int)):aq (aq Int):=L.filterMap λu=>(φ (vl u)).map λy=>u++[y]
theorem mJ{B:Nat}{C:Int}(b:∀ u∈U,0<=vl u/\vl u<B)(d:vl e=B):bN (U++[e]) (((lns B 0).filterMap (gpt φ)).map v2++[[(B:Int),C]])=ext φ U++[e++[C]]:=by
 unfold bN ext
 refine rwL je (congr (b3 _ (lT λu m=>?_)) ?_)
 ·have:=b u m
  rw[aFq this.1 (Y163 this)]
  cases φ (vl u) with
  |none=>rw[tJ λw c=>by exact rwL (dv.mp c) this.2];rfl
  |some z=>rfl
 ·rw[ik (by rw[d,(by
   intro φ y T m
   induction m with
   |zero=>exact λq=>rfl
   |succ m a=>
    intro i h
    cases e:φ i with
    |none=>exact rwL (iz (by delta gpt;rw[e];rfl)) (a (Y164 h))
    |some z=>
     exact rwL (ik (by delta gpt;rw[e];rfl)) (rwL (jD (by exact rwL (bp (show¬vh [i,z]=y by show¬i=y;exact Y165 h)) Bool.false_ne_true)) (a (Y164 h))):∀{φ:Int->bc Int}{y:Int}{T:aq (aq Int)}{m:Nat},∀ {i:Int},i+m<=y->(((lns m i).filterMap (gpt φ)).map v2++T).find? (λw=>decide (vh w=y))=T.find? λw=>decide (vh w=y)) (zzM0 0x1a28128a0403d002 [B] ⋯),lq (by exact bm rfl)];rfl)];rfl
theorem VC.pw(h:VC k p L e):L.Pairwise λv w=>vh v<vh w:=by
 induction h with
 |nil=>exact .nil
 |cons h b c t a=>exact .cons (λw m=>(t.gt w m).1) a
theorem xL(c:1<k){V:aq (aq Int)}(f:VC k p V e):bN U (bN V W)=bN (bN U V) W:=by
 show U.filterMap _=(U.filterMap _).filterMap _
 refine rwL List.filterMap_filterMap (lT λu m=>?_)
 rw[(by
  intro V W y a h
  induction V with
  |nil=>rfl
  |cons v V j=>
   obtain⟨g,i⟩:=et.mp h
   have I:=j (λx m=>a x (eh _ m)) i
   have nv:=a v c3
   cases b:W.find? λw=>decide (vh w=vl v) with
   |none=>
    have d:bN (v::V) W=bN V W:=iz (by rw[b];rfl)
    rw[d,I]
    by_cases q:vh v=y
    ·rw[lq (p:=λv=>decide (vh v=y)) (bm q),tJ λw m=>q▸g w m]
     show ba=(W.find? λw=>decide (vh w=vl v)).map _
     rw[b];rfl
    ·rw[jD (by exact rwL (bp q) Bool.false_ne_true)]
   |some w=>
    have d:bN (v::V) W=(v++w.tail)::bN V W:=ik (by rw[b];rfl)
    rw[d]
    by_cases q:vh v=y
    ·rw[lq (p:=λv=>decide (vh v=y)) (bm q),lq (p:=λv=>decide (vh v=y)) (bm ((mA nv).trans q))]
     show _=(W.find? λw=>decide (vh w=vl v)).map _
     rw[b];rfl
    ·exact rwL (jD (by exact rwL (bp (show¬vh (v++w.tail)=y by exact rwL (mA nv) q)) Bool.false_ne_true)) (rwL (jD (by exact rwL (bp q) Bool.false_ne_true)) I):∀{V W:aq (aq Int)}{y:Int}(a:∀ v∈V,v≠ [])(h:V.Pairwise λv w=>vh v<vh w),(bN V W).find? (λx=>decide (vh x=y))=(V.find? λv=>decide (vh v=y)).bind λv=>(W.find? λw=>decide (vh w=vl v)).map λw=>v++w.tail) (λv m=>fV (iq qY c) (f.len.2 v m)) f.pw]
 cases q:V.find? λv=>decide (vh v=vl u) with
 |none=>rfl
 |some v=>
  have lv:=f.len.2 v (List.mem_of_find?_eq_some q)
  show((W.find? λw=>decide (vh w=vl v)).map λw=>v++w.tail).map (λx=>u++x.tail)=(W.find? λw=>decide (vh w=vl (u++v.tail))).map λw=>u++v.tail++w.tail
  refine rwL (kG (sE c lv) u) (rwL (sB c lv) ?_)
  cases W.find? λw=>decide (vh w=vl v) with
  |none=>rfl
  |some w=>
   show am (u++(v++w.tail).tail)=am (u++v.tail++w.tail)
   rw[List.tail_append_of_ne_nil (fV (iq qY c) lv),dt]
theorem Cod.sw(h:Cod a b f i j l):Cod b a f j i (l.map Op.sw):=by
 induction h with
 |nil=>exact .nil
 |eq d p m _ c=>exact .eq d p (λt k q=>(m t k q).symm) c
 |ch d g o e n _ c=>exact .ch d g e o n.symm c
def ps(A B:Nat)(φ:Int->bc Int):aq (aq Int):=((lns A 0).filterMap (gpt φ)).map v2++[[(A:Int),(B:Int)]]
structure Pth(A B:Nat)(φ:Int->bc Int)(h:aq Hd):Prop where
 vc:VC 2 (b9 2) (ps A B φ) [(A:Int),(B:Int)]
 hd:vhd (ps A B φ) 2=h
theorem Gp.path(g:0<=n)(h:Gp n a b l gs)(c:Cod a b ba 0 0 l):Pth a.length b.length (carr n l be) (gs.map hd4):=by
 obtain⟨P,i,d,f⟩:=h.pts g c
 have e:(P.map λp=>v2 p.ab)=ps a.length b.length (carr n l be):=by
  rw[show (P.map λp=>v2 p.ab)=(P.map Pt.ab).map v2 from by rw[pp];rfl,f,bI,show ((a.length:Int)-0).toNat=a.length by exact (zzM0 0xa92a2803da28101101 [a.length] ⋯)]
  rfl
 have v:=d.vc
 rw[e]at v
 refine⟨v.1,?_⟩
 show hds (vpts _ [-1,-1]) (-1) (-1)=_
 rw[v.2,i]
theorem Pth.id:Pth B B (λx=>am x) []:=by
 have e:((frs (B+1) 0 0 false).map λp=>v2 p.ab)=ps B B λx=>am x:=by
  rw[show ((frs (B+1) 0 0 false).map λp=>v2 p.ab)=((frs (B+1) 0 0 false).map Pt.ab).map v2 from by rw[pp];rfl,
   <-lK (f:=λx=>am x) (λx q q=>by congr 1;exact (zzI0 0x140f40f68040a03 [x] ⋯)),gU,je,bI]
  rw[show (0:Int)+(B:Int)=(B:Int) by exact (zzM0 0x5a28128a0403d003 [B] ⋯)];rfl
 have v:=(@qE (B+1)).vc
 rw[e,show ((B+1:Nat):Int)-1=(B:Int) by exact (zzM0 0x168a0407da01f68004043 [B] ⋯)]at v
 refine⟨v.1,?_⟩
 show hds (vpts _ [-1,-1]) (-1) (-1)=_
 rw[v.2]
 have:= @qD (B+1) []
 rw[gz]at this
 exact this
theorem VC.inner:∀ {p:aq Int},VC k p (L++[l]) e->∀ v∈L,vh p<vh v/\vl p<vl v/\vh v<vh e/\vl v<vl e:=by
 induction L with
 |nil=>exact λq q m=>bv m dz
 |cons w L j=>
  intro p h v m
  have g:=h.gt v (by rcases e6.mp m with z |z<;>simp [z])
  cases h with
  |cons h f i t=>
   rcases e6.mp m with z |m
   ·refine rwL z ?_
    cases L with
    |nil=>
     cases t with
     |cons a b c d=>cases d;exact⟨f,i,b,c⟩
    |cons x L=>
     have y:=j t x c3
     exact⟨f,i,Int.lt_trans y.1 y.2.2.1,Int.lt_trans y.2.1 y.2.2.2⟩
   ·exact⟨g.1,g.2,(j t v m).2.2⟩
def iO(L:aq (aq Int)):aq Int->aq Hd:=L.rec (λq=>[]) λv q r p=>(bif ones p v then [] else [⟨vh p+1,vh v,vl p+1,vl v⟩])++r v
theorem lA(L:aq (aq Int))(k0:0<k):vhd L k=iO L (b9 k):=by
 have:=(by
  intro L
  induction L with
  |nil=>exact λq=>rfl
  |cons v L a=>
   intro p
   show(bif !ones p v then _ else _)++hds (vpts L v) (vh v) (vl v)=_
   rw[a]
   show _=(bif ones p v then _ else _)++iO L v
   cases ones p v<;>rfl:∀(L:aq (aq Int)),∀ p,hds (vpts L p) (vh p) (vl p)=iO L p) L (b9 k)
 rw[sC k0,show vh (b9 k)= -1 by cases k with |zero=>exact bv k0 (Nat.lt_irrefl _) |succ k=>rfl]at this
 exact this
def Fd(one two R:aq Hd):Prop:=∀ S:aq Iv,S.Perm (one.map hv1++two.map hv2)->Sl S->Fo 0 0 S R
theorem VC.fd(k0:0<k)(e:1<m)(d:vl b=vh a)(f:VC k (b9 k) U b)(c:VC m (b9 m) W a):Fd (vhd U k) (vhd W m) (vhd (bN U W) (k+(m-1))):=λS g h=>
 VC.fold k0 e d f c (by
  unfold vi1 vi2
  exact rwR ((aE6 (vpts U (b9 k)) (-1) (-1)).1) (rwR ((aE6 (vpts W (b9 m)) (-1) (-1)).2) g)) h
theorem len2{p:aq Int}(h:p.length=2):∃ a b,p= [a,b]:=by
 match p,h with
 | [a,b],_=>exact⟨a,b,rfl⟩
theorem due_id(L:aq (aq Int)):∀ {p:aq Int},p.length=2->(∀ v∈L,v.length=2)->iO (L.map λu=>u++[vl u]) (p++[vl p])=iO L p:=by
 induction L with
 |nil=>exact λq q=>rfl
 |cons v L g=>
  intro p f h
  have e:=h v c3
  show(bif ones (p++[vl p]) (v++[vl v]) then [] else [⟨vh (p++[vl p])+1,vh (v++[vl v]),vl (p++[vl p])+1,vl (v++[vl v])⟩])++iO _ (v++[vl v])=_
  rw[(g e λw m=>h w (eh _ m)),(by
   intro p v f e
   obtain⟨a,b,rfl⟩:=len2 f
   obtain⟨c,d,rfl⟩:=len2 e
   show(decide (c-a=1) && (decide (d-b=1) && (decide (d-b=1) && be)))=(decide (c-a=1) && (decide (d-b=1) && be))
   cases decide (d-b=1)<;>rfl:∀{p v:aq Int}(f:p.length=2)(e:v.length=2),ones (p++[vl p]) (v++[vl v])=ones p v) f e,mA (λz=>by cases (z▸f)),mA (λz=>by cases (z▸e)),kG (m0 _ _),kG (m0 _ _)]
  rfl
theorem Pth.fd0(P:Pth A B φ h):Fd h [] h:=by
 have F:=VC.fd (by decide) (by decide) (rfl:vl [(A:Int),(B:Int)]=vh [(B:Int),(B:Int)]) P.vc Pth.id.vc
 rw[P.hd,Pth.id.hd]at F
 have r:∀ u∈((lns A 0).filterMap (gpt φ)).map v2,0<=vl u/\vl u<(B:Int):=λu m=>by
  exact⟨(VC.inner P.vc u m).2.1,(VC.inner P.vc u m).2.2.2⟩
 have:vhd (bN (ps A B φ) (ps B B λx=>am x)) (2+(2-1))=h:=by
  rw[lA _ (by decide)]
  have a:bN (ps A B φ) (ps B B λx=>am x)=(ps A B φ).map λu=>u++[vl u]:=by
   refine (mJ (φ:=λx=>am x) (C:=(B:Int)) r (e:=[(A:Int),(B:Int)]) rfl).trans ?_
   rw[(by
    intro L
    delta ext
    induction L with
    |nil=>rfl
    |cons v L b=>
     show(v++[vl v])::qs _ L=_
     rw[b];rfl:∀(L:aq (aq Int)),ext (λx=>am x) L=L.map λu=>u++[vl u])]
   show _=(((lns A 0).filterMap (gpt φ)).map v2++[[(A:Int),(B:Int)]]).map _
   rw[bI];rfl
  refine rwL a ((due_id (ps A B φ) (p:=b9 2) rfl P.vc.len.2).trans ?_)
  rw[<-lA _ (by decide),P.hd]
 rw[this]at F
 exact F
structure Ways(A B C D:Nat)(f g k:Int->bc Int)(h0 h1 h2:aq Hd):Prop where
 s0:Pth A B f h0
 s1:Pth B C g h1
 s2:Pth C D k h2
def pt1(A:Nat)(f:Int->bc Int):aq (aq Int):=ext f ((lns A 0).map λi=>[i])
theorem aDl:pt1 A f=((lns A 0).filterMap (gpt f)).map v2:=by
 unfold pt1 ext
 refine rwL List.filterMap_map (rwL List.map_filterMap (lT λx q=>?_))
 show(f x).map (λy=>[x]++[y])=(gpt f x).map v2
 delta gpt
 cases f x<;>rfl
def rV(A B C D:Nat):aq Int:=[(A:Int),(B:Int),(C:Int),(D:Int)]
theorem Ways.join{C:Nat}(W:Ways A B C D f g k h0 h1 h2):bN (ps A B f) (ps B C g)=ext g (pt1 A f)++[[(A:Int),(B:Int),(C:Int)]]/\bN (bN (ps A B f) (ps B C g)) (ps C D k)=ext k (ext g (pt1 A f))++[rV A B C D]/\VC 3 (b9 3) (bN (ps A B f) (ps B C g)) [(A:Int),(B:Int),(C:Int)]:=by
 have d:∀ u∈((lns A 0).filterMap (gpt f)).map v2,0<=vl u/\vl u<(B:Int):=λu m=>by
  exact⟨(VC.inner W.s0.vc u m).2.1,(VC.inner W.s0.vc u m).2.2.2⟩
 have a:bN (ps A B f) (ps B C g)=ext g (pt1 A f)++[[(A:Int),(B:Int),(C:Int)]]:=by
  delta ps
  exact rwR aDl (rwL aDl (mJ (φ:=g) (C:=(C:Int)) d (e:=[(A:Int),(B:Int)]) rfl))
 have b:=((VC.join0 (by decide) (by decide) (rfl:vl [(A:Int),(B:Int)]=vh [(B:Int),(C:Int)]) W.s0.vc W.s1.vc).2)
 refine⟨a,?_,b⟩
 rw[a]at b ⊢
 have c:∀ u∈ext g (pt1 A f),0<=vl u/\vl u<(C:Int):=λu m=>by
  exact⟨(VC.inner b u m).2.1,(VC.inner b u m).2.2.2⟩
 exact mJ (φ:=k) c rfl
def due3(A B C D:Nat)(f g k:Int->bc Int):aq Hd:=iO (ext k (ext g (pt1 A f))++[rV A B C D]) (b9 4)
def extK(rm:Nat)(lo:Lo)(K:SK):EK:=λv H2=>Lf (H2[rm]?.bind MO.own) λvs=>Lf (own H2 v) λws=>vs.length+ws.length<1000000/\K .next lo (H2.set rm (.list (vs++ws)))
theorem xS(h:H[rm]? =am (.list vs))(h':H[r]? =am (.list ws))(a:vs.length+ws.length<1000000)(q:K .next lo (H.set rm (.list (vs++ws)))):extK rm lo K (.ref r) H:=Lf.mk (d9 h) (Lf.mk (d9 h') ⟨a,q⟩)
theorem s2_at(o:Op)(l:aq Op):s2 (l++[o])=o.i2/\t2 (l++[o])=o.j2:=⟨lD o l,lB o l⟩
theorem aG0(q:Q (.int (x+y)) H):Lp (aH (.int x) (.int y) H) Q:=Lp.mk rfl q
theorem rE:∀ (n:Nat) (x:Int),mZ x 1 n=(List.range n).map λk=>V.int (x+(k:Nat))
 |0,x=>rfl
 |n+1,x=>by
  rw[(by exact λa c n=>rfl:∀(a c:Int)(n:Nat),mZ a c (n+1)= .int a::mZ (a+c) c n),rE n (x+1),List.range_succ_eq_map,kn,pp]
  congr 1
  ·rw[Int.natCast_zero,jq]
  ·refine ot λk q=>?_
   show V.int (x+1+(k:Int))=V.int (x+((k+1:Nat):Int))
   rw[Int.natCast_add,me,Int.add_comm 1];rfl
def nv(k:Nat):V:=.int (k:Nat)
theorem aDj(n:Nat):mZ 0 1 n=(List.range n).map nv:=by
 rw[rE]
 exact ot λk q=>b3 V.int (kj _)
theorem lU{α:Type}{out:α->aq V}(h:∀ x,(out x).length<=1):∀ l:aq α,(l.flatMap out).length<=l.length:=λn=>by
 induction n with
 |nil=>
  exact Nat.le_refl _
 |cons x l a=>
  exact rwL lp (rwL bq (rwL ea (zzM2 0x541f69028a80001f6a007a68007 [(List.flatMap out l).length,l.length,(out x).length] ⋯ a (h x))))
def numO(sc:aq Int)(k:Nat):Int:=(k:Int)*(k+1)/2+(pk sc (am (k:Int)) ba (am 24)).sum
theorem bT:upd lo x v x=am v:=ca rfl
theorem jH(q:E (upd lo x v) H λw H1=>Lf (H1[ai]?.bind MO.own) λvs=>vs.length<1000000/\P (upd lo x v) (H1.set ai (.list (vs++[w])))):d6 (aN x) (tK be) (bA E ai) v lo H P:=q
theorem yU(q:F (upd lo x v) H λw H1=>Lf (tr w H1) λb=>bif b then(E (upd lo x v) H1 λw H1=>Lf (H1[ai]?.bind MO.own) λvs=>vs.length<1000000/\P (upd lo x v) (H1.set ai (.list (vs++[w])))) else P (upd lo x v) H1):d6 (aN x) (bC (tE F) (tK be)) (bA E ai) v lo H P:=kch ⋯ q
theorem iN(h:f lo H λv e=>f1 lo e λa H1=>f2 lo H1 λb g=>f3 lo g λc d=>Lf (prt a) λpa=>Lf (prt b) λpb=>Lf (prt c) λpc=>Lp (slc v pa pb pc d) Q):eX f f1 f2 f3 lo H Q:=h
theorem vT:hide [".0","k"] lo "script" =lo "script" :=by kernel_rfl
theorem vO:upd lo "k" v "script" =lo "script" :=by kernel_rfl
theorem fU{α:Type}(g:α->aq Int)(l:aq α):l.flatMap (λx=>(g x).map V.int)=(l.flatMap g).map V.int:=by
 induction l with
 |nil=>rfl
 |cons x l a=>rw[lp,lp,bI,a]
def Evv(f:EF)(lo:Lo)(H:MH)(v:V):Prop:=∀ Q:EK,Q v H->f lo H Q
theorem Evv.bin{a v2:V}(h1:Evv f1 lo H a)(h2:Evv f2 lo H v2)(b:g a v2 H=am (w,H)):Evv (aA g f1 f2) lo H w:=λQ q=>bJ (h1 _ (h2 _ (Lp.mk b q)))
theorem Evv.n(h:lo x=am v):Evv (eN x) lo H v:=λQ q=>aW h q
theorem Evv.k:Evv (eK v) lo H v:=λQ q=>q
theorem mul_e(h: -1000000000<x/\x<1000000000):vE (.int x) (.int y) H=am (.int (x*y),H):=ca (bm h)
theorem aAq(h:0<y/\y<1000000000):nQ (.int x) (.int y) H=am (.int (x/y),H):=ca (bm h)
theorem m4(h:0<y):gQ (.int x) (.int y) H=am (.int (x%y),H):=ca (bm h)
theorem jB:aH (.int x) (.int y) H=am (.int (x+y),H):=rfl
def vB(o:Op):aq V:=bif !o.tag.isEq then [o.v] else []
theorem lG:∀ l:aq Op,l.flatMap vB=(chg l).map Op.v
 | []=>rfl
 |o::l=>by
  rw[lp,lG l]
  delta vB
  cases e:o.tag.isEq with
  |true=>rw[t9 e];rfl
  |false=>rw[uA e];rfl
theorem aDk(d:B[ai]? =ba):Put (λq=>qm) B ai (vB o) (d6 (aN "code") (bC (tE neE) (tK be)) (bA (eN "code") ai) o.v):=⟨λ{lo H acc P} i b c a k=>yU ((bJ (bJ (aW bT (cL (wR (cL (Lp.mk (by delta aX;rw[oV];rfl) (Lf.mk rfl (by
   unfold vB at k a
   cases e: !o.tag.isEq with
   |false=>rw[e]at k;exact b8 (put0 b c rfl trivial k)
   |true=>rw[e]at k a;exact b7 (aW bT (vA d b c a rfl trivial k))))))))))))⟩
theorem lX(l:aq Op):(chg l).length<=l.length:=List.length_filter_le ..
def gv(p:Nat×aq Op):V:=.ref p.1
def HG(H:MH)(ps:aq (Nat×aq Op)):Prop:=∀ p∈ps,H[p.1]? =am (.list (p.2.map Op.v))
theorem HG.hx{ps:aq (Nat×aq Op)}(h:HG B ps)(x:Hx B H):HG H ps:=λp a=>x _ _ (h p a)
theorem sI(h:f1 lo H λa H1=>f2 lo H1 λb d=>Lp (aX not a b d) λv c=>Lf (tr v c) λb=>bif b then(aB (dQ (eK (.bool false))) (sK .next)) lo c K else K .next lo c):sIf (tE (aA (aX not) f1 f2)) (aB (dQ (eK (.bool false))) (sK .next)) (sK .next) lo H K:=h
theorem no_i{R S:MH->Prop}(h:eqv H x y=am be)(q:S H):Lp (aX not x y H) λv a=>Lf (tr v a) λb=>bif b then R a else S a:=Lp.mk (by delta aX;rw[h];rfl) (Lf.mk rfl (b8 q))
theorem cB{α:Type}(g:α->V)(l:aq α):(l.flatMap λx=>[g x])=l.map g:=(List.map_eq_flatMap ..).symm
theorem y1(a:B[ai]? =ba)(h:∀ {lo:Lo}{H:MH}{acc:aq V}{Q:EK},lo x=am w->Hx B H->H[ai]? =am (.list acc)->(∀ {H'},Hx B H'->H'[ai]? =am (.list acc)->Q v H')->f lo H Q):Put (λb=>qm) B ai [v] (d6 (aN x) (tK be) (bA f ai) w):=y4 a (λi q=>q bT trivial) ⟨h⟩
theorem xG(a:lo x=am (.ref r))(h:lst H (.ref r)=am vs)(b:vs.length<100000)(q:Q (.int vs.length) H):aJ b5 (esC (eN x) esN) lo H Q:=aW a (qA h (iq b (by decide)) q)
theorem mE(q:Q (.int (-1)) H):cS (eK (.int 1)) lo H Q:=q
theorem u7{α:Type}{K:ItK C}{d:BF}(f:α->V)(a:aq α->Lo->MH->Prop)(e:∀ {l lo H},a l lo H->Hx B H)(j:∀ {lo H},a [] lo H->Q lo H)(hs:∀ {x l lo H P},a (x::l) lo H->(∀ {b H'},a l b H'->P b H')->d6 tgt t (d ai) (f x) lo H P):∀ (l:aq α){it:K.σ}{lo:Lo}{H:MH},Its K B it (l.map f)->a l lo H->lE K tgt t (d ai) (l.length+1) it lo H Q:=λn=>by
 induction n with
 |nil=>
  intro it lo H c i
  cases c with
  |nil h=>exact h (e i) (j i)
 |cons x l g=>
  intro it lo H c i
  cases c with
  |cons h k=>exact h (e i) (hs i λi'=>g k i')
theorem Lo.ne(h:y≠x):upd lo x v y=lo y:=bz h
theorem aQ(h:g lo H K):bW g K .next lo H:=h
def Fs(l:aq (Str×V))(lo:Lo):Prop:=∀ x v,l.lookup x=am v->lo x=am v
theorem Fs.cons(h:Fs l lo)(x:Str)(v:V):Fs ((x,v)::l) (upd lo x v):=λy w e=>by
 rw[List.lookup]at e
 by_cases q:y=x
 ·subst q
  rw[qr]at e
  exact bT.trans e
 ·rw[show (y==x)=false by simpa using q]at e
  exact(Lo.ne q).trans (h y w e)
def rv{β:Type}(p:Nat×β):V:=.ref p.1
def HB{β:Type}(ob:β->aq V)(H:MH)(ps:aq (Nat×β)):Prop:=∀ p∈ps,H[p.1]? =am (.list (ob p.2))
inductive NIv{α β:Type}(ob:β->aq V)(c:α->β)(I:Lo->Prop)(B:MH)(ai:Nat)(l:aq α)(rest:aq α)(lo:Lo)(H:MH):Prop
 |mk {done:aq (Nat×β)} (i:I lo) (hx:Hx B H) (h:H[ai]? =am (.list (done.map rv))) (hd:∀ d∈done,H[d.1]? =am (.list (ob d.2))/\d.1≠ai) (t:done.map Prod.snd++rest.map c=l.map c) (hr:∀ x∈rest,x∈l) (hf:∀ d∈done,B[d.1]? =ba):NIv ob c I B ai l rest lo H
theorem wE{α:Type}{K:ItK C}{z:IF K}{it:K.σ}(ob:β->aq V)(f:α->V)(c:α->β)(I:Lo->Prop)(l:aq α)(F:l.length<100000)(s:∀ {P:K.σ->MH->Prop},P it H->z lo H P)(L:Its K H it (l.map f))(D:I (hide u lo))(hs:∀ x∈l,∀ {j:Lo}{H1:MH}{P:LK},I j->Hx H H1->(∀ {o a r},I o->Hx H1 a->a[r]? =am (.list (ob (c x)))->H1[r]? =ba->Lf (a[H.length]?.bind MO.own) λvs=>vs.length<1000000/\P o (a.set H.length (.list (vs++[.ref r]))))->d6 tgt t (bA E H.length) (f x) j H1 P)(k:∀ {H' ps},Hx H H'->H'[H.length]? =am (.list (ps.map rv))->HB ob H' ps->ps.map Prod.snd=l.map c->(∀ p∈ps,H[p.1]? =ba)->Q (.ref H.length) H'):bU K u z tgt t (bA E) lo H Q:=by
 refine s ⟨_,u7 f (NIv ob c I H H.length l) (λJ=>?_) (λJ=>?_) (λ{x l' j H1 P} J G=>?_) l L (.mk D (.app _ _) (aT _ _) (λO h=>bv h dz) rfl (λx e=>e) λO h=>bv h dz)⟩
 ·cases J with
  |mk i e h g t w s=>exact e
 ·cases J with
  |mk i e h g t w s=>exact k e h (λd hd'=>(g d hd').1) (by exact rwR t ((gz _).symm)) s
 ·cases J with
  | @mk done i e h g t w s=>
   refine hs x (w x c3) i e λ{o a r} N y M A=>Lf.mk (d9 (y _ _ h)) ⟨?_,?_⟩
   ·rw[bg]
    have:=b3 List.length t
    rw[bq,bg,bg,bg]at this
    exact zzM2 0x95ec3283d07da40028aa90011c387583d07da00007 [l.length,done.length,(x :: l').length] ⋯ F this
   ·refine G (.mk N ((e.trans y).set (aI H)) (rwL bI (aP (y _ _ h) _)) ((by
     exact λ{H β ob v r b a m done} g x h n=>λd hd'=>by
       rcases e7.mp hd' with hd' |hd'
       ·have:=g d hd'
        exact⟨aM (x _ _ this.1) this.2.symm,this.2⟩
       ·exact rwL (dv.mp hd') ⟨aM h n.symm,n⟩:∀{H:MH}{β:Type}{ob:β->aq V}{v r:Nat}{b:β}{a:MH}{m:MO}{done:aq (Nat×β)}(g:∀ d∈done,H[d.1]? =am (.list (ob d.2))/\d.1≠v)(x:Hx H a)(h:a[r]? =am (.list (ob b)))(n:r≠v),∀ d∈done++[(r,b)],(a.set v m)[d.1]? =am (.list (ob d.2))/\d.1≠v) g y M (λq=>aE ((q▸A).symm.trans h))) ?_ (λq B=>w q (eh _ B)) λd hd'=>(e7.mp hd').elim (s d) λhd'=>by exact rwL (dv.mp hd') (e.no A))
    ·rw[bI,dt];exact t
def off(l:aq (Str×V))(hid:aq Str):ec:=l.all λp=> !hid.contains p.1
theorem Fs.hide(F:Fs l lo){a:aq Str}(h:off l a=be):Fs l (hide a lo):=λx v e=>by
 have:=iu.mp h _ (mem_of_lookup e)
 show(if a.contains x then ba else lo x)=_
 cases c:a.contains x with
 |true=>rw[show a.contains (x,v).1=be from c]at this;cases this
 |false=>exact F x v e
theorem Fs.up(F:Fs l lo)(h:off l [y]=be):Fs l (upd lo y w):=λx v e=>by
 have:=iu.mp h _ (mem_of_lookup e)
 refine(Lo.ne λq=>?_).trans (F x v e)
 rw[show [y].contains (x,v).1=be from by exact rwL (show (x,v).1=y from q) (oz.mpr c3)]at this
 cases this
theorem Fs.re(F:Fs l lo)(m:aq (Str×V))(h:m.map (λp=>l.lookup p.1)=m.map λp=>am p.2):Fs m lo:=λx v e=>F x v (List.map_inj_left.mp h _ (mem_of_lookup e))
theorem aE4(b: -1000000<z/\z<1000000)(a:Evv E lo H (.int z))(q:P (0,z.toNat,1) H):iR (aJ gN (esC E esN)) lo H P:=by
 refine a _ (bF ((by exact λ{H n Q} q=>kch ⋯ q:∀{H:MH}{n:Int}{Q:EK}(q:Q (.rng 0 n 1) H),gN [.int n] H Q) (Lf.mk rfl ⟨?_,?_⟩)))
 ·delta rOk
  rw[bm b.1,bm b.2];rfl
 ·show P (0,(z-0).toNat,1) H
  rw[Int.sub_zero];exact q
theorem xH(a:lo x=am (.ref r))(h:lst H (.ref r)=am vs)(b:vs.length<100000):Evv (aJ b5 (esC (eN x) esN)) lo H (.int vs.length):=λQ q=>xG a h b q
theorem mV:bL (.int x) (.int y) H=am (.int (x-y),H):=rfl
theorem xQ(a:lo x=am (.ref r))(h:H[r]? =am (.list vs))(q:g lo H (extK r lo K)):bE (xV (eN x) g) lo H K:=kch (B:=Lf (lo x) λv=>Lf v.rf λi=>(∃ vs,H[i]? =am (.list vs))/\g lo H (extK i lo K)) ⋯ (Lf.mk a (Lf.mk rfl ⟨⟨_,h⟩,q⟩))
def appK(r:Nat)(lo:Lo)(K:SK):EK:=λv H2=>Lf (H2[r]?.bind MO.own) λvs=>vs.length<1000000/\K .next lo (H2.set r (.list (vs++[v])))
theorem uD(a:lo x=am (.ref r))(h:H[r]? =am (.list vs))(q:g lo H (appK r lo K)):bE (c9 (eN x) g) lo H K:=kch (B:=Lf (lo x) λv=>Lf v.rf λi=>(∃ vs,H[i]? =am (.list vs))/\g lo H (appK i lo K)) ⋯ (Lf.mk a (Lf.mk rfl ⟨⟨_,h⟩,q⟩))
theorem uE(h:H[r]? =am (.list vs))(a:vs.length<1000000)(q:K .next lo (H.set r (.list (vs++[v])))):appK r lo K v H:=Lf.mk (d9 h) ⟨a,q⟩
theorem jY{a:aq Str}(h:f lo H λv H1=>Lf v.tp λvs=>vs.length=a.length/\Lf (upds a.reverse vs.reverse lo) λlo'=>K .next lo' H1):cN a f lo H K:=h
theorem rW(h:f lo H λv H1=>Lp (mkL [v] H1) Q):cX (esC f esN) lo H Q:=h
theorem mF(q:Q (.ref H.length) (H++[.list [v]])):Lp (mkL [v] H) Q:=Lp.mk (by exact ca (show 1<1000000 by decide)) q
theorem aAk:aX id (.int x) (.int y) H=am (.bool (decide (x=y)),H):=by kernel_rfl
theorem mC(h:f lo H λb H1=>bif b then g lo H1 P else P false H1):bC f g lo H P:=h
theorem te_i(h:f lo H λv H1=>Lf (tr v H1) λb=>P b H1):tE f lo H P:=h
theorem tk_i{b:ec}(h:P b H):tK b lo H P:=h
theorem oF{α:Type}(l:aq α):l= []\/∃ a x,l=a++[x]:=(List.eq_nil_or_concat l).imp_right fun⟨a,x,h⟩=>⟨a,x,h.trans List.concat_eq_append⟩
theorem lM(h:H[r]? =am (MO.list (vs++[v]))):aG (.ref r) (.int (-1)) H=am (v,H):=tC h (by decide) ((by
 intro α vs v
 rw[seqIndex?_neg_one (by rw[bq];exact Nat.succ_pos _),bq];rfl:∀{α:Type}(vs:aq α)(v:α),PySem.seqIndex? (-1) (vs++[v]).length=am vs.length) vs v) (by rw[gM (Nat.le_refl _),pI];rfl)
theorem tor_i(h:f lo H λb H1=>bif b then P be H1 else g lo H1 P):tOr f g lo H P:=h
theorem lt_e:oCmp (λx y=>decide (x<y)) (.int x) (.int y) H=am (.bool (decide (x<y)),H):=rfl
theorem aAn(h:t lo H λb H1=>bif b then f lo H1 Q else g lo H1 Q):eIf t f g lo H Q:=h
structure Hs(A B:Nat)(l:aq Hd):Prop where
 b:∀ h∈l,0<=h.i1/\h.i1<=h.i2/\h.i2<=A/\0<=h.j1/\h.j1<=h.j2/\h.j2<=B
 p:l.Pairwise λh h'=>h.i2<h'.i1/\h.j2<h'.j1
structure DueB(p e:aq Int)(l:aq Hd):Prop where
 b:∀ h∈l,vh p+1<=h.i1/\h.i1<=h.i2/\h.i2<=vh e/\vl p+1<=h.j1/\h.j1<=h.j2/\h.j2<=vl e
 pw:l.Pairwise λh h'=>h.i2<h'.i1/\h.j2<h'.j1
 l:(l.length:Int)<=vh e-vh p
theorem VC.due(h:VC k p L e):DueB p e (iO L p):=by
 induction h with
 | @nil p _=>exact⟨λq m=>bv m dz,.nil,by exact Y195⟩
 | @cons p v e L h f j t n=>
  obtain⟨g,l,i⟩:=n
  have o:vh v<=vh e/\vl v<=vl e:=by
   cases t with
   |nil=>exact⟨c4 _,c4 _⟩
   |cons a b c d=>exact⟨Y194 i,Y193 c ((VC.cons a b c d).ends _ c3)⟩
  have e0:iO (v::L) p=(bif ones p v then [] else [⟨vh p+1,vh v,vl p+1,vl v⟩])++iO L v:=rfl
  rw[e0]
  cases ones p v with
  |true=>
   refine⟨λh m=>(Y190 f j (g h m)),l,?_⟩
   ·exact Y192 f i
  |false=>
   refine⟨λh m=>?_,?_,?_⟩
   ·rcases e6.mp m with z |m
    ·exact rwL z (Y191 f j o:vh p+1<=vh p+1/\vh p+1<=vh v/\vh v<=vh e/\vl p+1<=vl p+1/\vl p+1<=vl v/\vl v<=vl e)
    ·exact Y190 f j (g h m)
   ·exact et.mpr ⟨λh m=>(Y189 (g h m):vh v<h.i1/\vl v<h.j1),l⟩
   ·exact Y188 f i
theorem VC.hs{A B:Nat}(k0:0<k)(h:VC k (b9 k) L e)(a:vh e=A)(d:vl e=B):Hs A B (vhd L k)/\(vhd L k).length<=A+1:=by
 have D:=h.due
 have c:vh (b9 k)= -1:=by cases k with |zero=>exact bv k0 (Nat.lt_irrefl _) |succ k=>rfl
 refine rwL (lA _ k0) ⟨⟨λh m=>?_,D.pw⟩,?_⟩
 ·have:=D.b h m
  rw[a,d,(sC k0),c]at this
  exact Y187 this
 ·have:=D.l
  rw[a,c]at this
  exact zzM1 0x141f6902802807d168a44068a04087 [(iO L (b9 k)).length,A] ⋯ this
theorem Chn.len(h:Chn x y P A B):3*((hds P x y).length:Int)<=A-x+(B-y):=by
 induction h with
 |nil=>exact((zzI0 0x1a69068a01000f43f82 [a,b] ⋯):3*(0:Int)<=_)
 | @cons a b A B p P n h k c=>
  have e0:hds (p::P) a b=(bif p.h then [⟨a+1,p.a,b+1,p.b⟩] else [])++hds P p.a p.b:=rfl
  refine rwL e0 ?_
  cases q:p.h with
  |false=>exact(Y184 c n.na n.nb:3*((hds P p.a p.b).length:Int)<=_)
  |true=>
   exact(Y183 c n.na n.nb (h q):3*(((hds P p.a p.b).length+1:Nat):Int)<=_)
theorem Gp.hd3(e:0<=n)(h:Gp n a b l gs)(c:Cod a b ba 0 0 l):3*gs.length<=a.length+b.length+2:=by
 obtain⟨P,f,d,g⟩:=h.pts e c
 have:=d.len
 rw[f,bg]at this
 exact zzM1 0x50bdaa9000a03f80a01f45a2a101a01f45a29101028a040fe087 [gs.length,a.length,b.length] ⋯ this
theorem Pth.hs(P:Pth A B φ h):Hs A B h/\h.length<=A+1:=by
 exact (rwR P.hd (P.vc.hs (by decide) (rfl:vh [(A:Int),(B:Int)]=A) (rfl:vl [(A:Int),(B:Int)]=B)))
theorem Hs.nil:Hs A B []:=⟨λq m=>bv m dz,.nil⟩
def Iv.v(i:Iv):V:=.tup [.int i.lo,.int i.hi,.int (bif i.w then 1 else 0),.int i.g]
def kI(i:Iv):Int:=(i.lo*1000+i.hi)*2+(bif i.w then 1 else 0)
theorem kI_lt(f:0<=x.hi/\x.hi<1000)(e:0<=y.hi/\y.hi<1000)(h:kI x<kI y):x.v.lt y.v=am be/\x.lo<=y.lo:=by
 unfold kI at h
 have a:(bif x.w then(1:Int) else 0)=0\/(bif x.w then(1:Int) else 0)=1:=by cases x.w<;>simp
 have b:(bif y.w then(1:Int) else 0)=0\/(bif y.w then(1:Int) else 0)=1:=by cases y.w<;>simp
 show mI [.int x.lo,.int x.hi,.int (bif x.w then 1 else 0),.int x.g] [.int y.lo,.int y.hi,.int (bif y.w then 1 else 0),.int y.g]=am be/\_
 revert h a b
 generalize (bif x.w then(1:Int) else 0)=p
 generalize (bif y.w then(1:Int) else 0)=q
 intro h a b
 rw[mH]
 by_cases c:x.lo=y.lo
 ·rw[c,bm rfl,mi,mH]
  refine⟨?_,c4 _⟩
  by_cases d:x.hi=y.hi
  ·rw[d,bm rfl,mi,mH,bp (by omega),ow]
   exact b3 am (bm (by omega))
  ·rw[bp d,ow]
   exact b3 am (bm (by omega))
 ·rw[bp c,ow]
  exact⟨b3 am (bm (by omega)),by omega⟩
theorem xK(d:0<=x.hi/\x.hi<1000)(b:0<=y.hi/\y.hi<1000)(h:kI x=kI y):x.lo=y.lo/\x.w=y.w:=by
 unfold kI at h
 cases c:x.w<;>cases a:y.w<;>rw[c,a]at h<;>simp only[mi,ow]at h
 ·exact⟨by omega,rfl⟩
 ·omega
 ·omega
 ·exact⟨by omega,rfl⟩
theorem le_e:oLe (.int x) (.int y) H=am (.bool (decide (x<=y)),H):=rfl
theorem yS{b:SF}(a:Nat->Lo->MH->Prop)(hs:∀ {m lo H},a m lo H->∃ c:ec,(∀ P:ec->MH->Prop,P c H->t lo H P)/\(bif c then ∀ K,GoK (λlo' H'=>∃ m',m'<m/\a m' lo' H') Q K->b lo H K else Q .next lo H)):∀ (n m:Nat){lo:Lo}{H:MH},m<n->a m lo H->runW t b n lo H Q:=λn=>by
 induction n with
 |zero=>exact λm lo H d=>(bv d (Nat.not_lt_zero _))
 |succ n i=>
  refine λm lo H d h=>(xEA (hs h) λc j e=>?_)
  refine j _ ?_
  cases c with
  |true=>exact e _ (.loop fun⟨m',f,g⟩=>i m' (Nat.lt_of_lt_of_le f (Nat.le_of_lt_succ d)) g)
  |false=>exact e
def Hd.v(h:Hd):V:=.tup [.int h.i1,.int h.i2,.int h.j1,.int h.j2]
def hT:AF:=uF 4 (asC (aN "i1") (asC (aN "i2") (asC (aN "j1") (asC (aN "j2") asN))))
structure HJ(h:Hd)(lo:Lo):Prop where
 i1:lo "i1" =am (.int h.i1)
 i2:lo "i2" =am (.int h.i2)
 j1:lo "j1" =am (.int h.j1)
 j2:lo "j2" =am (.int h.j2)
theorem hT_i(q:∀ {a},HJ h a->R a H):hT h.v lo H R:=kch (B:=(4=4/\R (upd (upd (upd (upd lo "i1" (.int h.i1)) "i2" (.int h.i2)) "j1" (.int h.j1)) "j2" (.int h.j2)) H)) ⋯ ⟨rfl,q ⟨by kernel_rfl,by kernel_rfl,by kernel_rfl,by kernel_rfl⟩⟩
theorem mvE_e(J:HJ h lo):Evv mvE lo H (.int (h.j2-h.j1-h.i2+h.i1)):=.bin (.bin (.bin (.n J.j2) (.n J.j1) mV) (.n J.i2) mV) (.n J.i1) jB
theorem wP(q:E lo H λw H1=>Lf (H1[ai]?.bind MO.own) λvs=>vs.length<1000000/\P lo (H1.set ai (.list (vs++[w])))):tK be lo H λb a=>bif b then bA E ai lo a P else P lo a:=q
def fF(rm rh ro k:Nat):aq (Str×V):=[("met",.ref rm),("heads",.ref rh),("more",.ref ro),("k",nv k)]
def fIn(rm rh ro k:Nat)(hi l r:Int):aq (Str×V):=("high",.int hi)::("left",.int l)::("right",.int r)::fF rm rh ro k
structure MetB(B:MH)(S:aq Iv)(rm rh ro:Nat):Prop where
 m:B[rm]? =am (.list (S.map Iv.v))
 l:S.length<1000
 h:B[rh]? =ba
 o:B[ro]? =ba
 ne:rh≠ro
 b:∀ i∈S,i.lo<=i.hi
theorem xW{α:Type}{S R:aq α}{x:α}(h:S.drop k=x::R):S[k]? =am x/\S.drop (k+1)=R:=⟨by rw[<-uc,h];rfl,by rw[<-tq,h];rfl⟩
theorem l5(h:H[r]? =am (.list vs))(a:vs[k]? =am v)(c:vs.length<100000):aG (.ref r) (nv k) H=am (v,H):=by
 have b:=(List.getElem?_eq_some_iff.mp a).1
 exact tC h ⟨Y198,zzM2 0x157b0ca0f41f68a44002a01f690001c387583d07da00007 [vs.length,k] ⋯ c b⟩ (fQ (fz k) (Y210 b)) (by rw[jb];exact a)
theorem rH{S:aq Iv}(h:H[rm]? =am (.list (S.map Iv.v)))(sl:S.length<1000)(b:lo "met" =am (.ref rm))(a:lo "k" =am (nv k))(e:S[k]? =am i)(q:aG i.v (.int z) H=am (w,H)):Evv (aA aG (aA aG (eN "met") (eN "k")) (eK (.int z))) lo H w:=.bin (.bin (.n b) (.n a) (l5 h (by rw[gh,e];rfl) (by rw[bg];exact iq sl (by decide)))) .k q
theorem z0(a:lo "k" =am (nv k))(b:lo "met" =am (.ref rm))(h:H[rm]? =am (.list vs))(vl:vs.length=n)(c:n<100000)(q:P (decide (k<n)) H):fLt lo H P:=te_i (bJ (aW a (xH b (aL h) (by exact rwL vl c) _ (Lp.mk lt_e (Lf.mk rfl (by rw[vl,show decide ((k:Int)<(n:Nat))=decide (k<n) from qt.mpr ⟨λz=>zzM1 0x16907da00028a4407da28100087 [k,n] ⋯ z,λz=>Y210 z⟩];exact q))))))
inductive FI(B:MH)(S:aq Iv)(rm rh ro:Nat)(acc:aq Hd)(l r M N h':Int)(S2:aq Iv)(m:Nat)(lo:Lo)(H:MH):Prop
 |mk {k:Nat}{hi mm nn:Int}{T S1:aq Iv} (em:T.length=m) (ek:k+T.length=S.length) (eS:S.drop k=T) (F:Fs (fIn rm rh ro k hi l r) lo) (hx:Hx B H) (hh:H[rh]? =am (.list (acc.map Hd.v))) (hm:H[ro]? =am (.list [.int mm,.int nn]))
  (ab:Ab hi T S1 S2 h') (e1:mm+cD false S1=M) (e2:nn+cD be S1=N):FI B S rm rh ro acc l r M N h' S2 m lo H
inductive FIE(B:MH)(S:aq Iv)(rm rh ro:Nat)(acc:aq Hd)(l r M N h':Int)(S2:aq Iv)(lo:Lo)(H:MH):Prop
 |mk {k:Nat} (ek:k+S2.length=S.length) (eS:S.drop k=S2) (F:Fs (fIn rm rh ro k h' l r) lo) (hx:Hx B H) (hh:H[rh]? =am (.list (acc.map Hd.v))) (hm:H[ro]? =am (.list [.int M,.int N])):FIE B S rm rh ro acc l r M N h' S2 lo H
theorem fin_ok(D:MetB B S rm rh ro)(J:FI B S rm rh ro acc l r M N h' S2 m lo H)(k:∀ {lo' H'},FIE B S rm rh ro acc l r M N h' S2 lo' H'->K .next lo' H'):fK fT fBd lo H K:=by
 refine⟨_,yS (FI B S rm rh ro acc l r M N h' S2) (λ{m lo H} J=>?_) (m+1) m (qc m) J⟩
 cases J with
 | @mk t d b a T e I n u F p E f ab A C=>
 have s:=p _ _ D.m
 have sl:=D.l
 cases T with
 |nil=>
  cases ab with
  |stop _=>
  exact⟨false,λP q=>mC (z0 (k:=t) (F _ _ ⋯) (F _ (.ref rm) ⋯) s (bg ..) (iq sl (by decide)) (rwL (bp (by exact Y206 (rwR ky n))) (b8 q))),k (.mk n u F p E (by rw[<-A,<-C,show cD false []=0 from rfl,show cD be []=0 from rfl,jq,jq];exact f))⟩
 |cons i T=>
  obtain⟨G,O⟩:=xW u
  refine⟨decide (i.lo<=d),λP q=>mC (z0 (k:=t) (F _ _ ⋯) (F _ (.ref rm) ⋯) s (bg ..) (iq sl (by decide)) ?_),?_⟩
  ·refine rwL (bm (show t<S.length by exact Y205 (rwR ea n))) (b7 (mC (te_i (bJ ((rH (z:=0) s sl (F _ (.ref rm) ⋯) (F _ (nv t) ⋯) G rfl) _ (aW (F _ (.int d) ⋯) (Lp.mk le_e (Lf.mk rfl ?_))))))))
   revert q
   generalize decide (i.lo<=d)=z
   intro q
   cases z with
   |false=>exact b8 q
   |true=>exact b7 (tk_i q)
  ·by_cases c:i.lo<=d
   ·rw[bm c]
    cases ab with
    |stop t=>exact bv (t i rfl) (Y125 c)
    |go _ ab=>exact λK go=>(by
     intro H B K Q lo S rm rh ro acc l r M N h' d b a i T e S2 k m D I n u F p E f ab A C go
     obtain⟨G,O⟩:=xW u
     have s:=p _ _ D.m
     have sl:=D.l
     refine aK (cE (bG (aO (aW (F _ (.int d) ⋯) (aO ((rH (z:=1) s sl (F _ (.ref rm) ⋯) (F _ (nv k) ⋯) G rfl) _ (bF ((by exact λ{H x y Q} q=>kch ⋯ q:∀{H:MH}{x y:Int}{Q:EK}(q:Q (.int (max x y)) H),q6 [.int x,.int y] H Q) (aQ ?_)))))))))
     have j:Fs (fIn rm rh ro k (max d i.hi) l r) (upd lo "high" (.int (max d i.hi))):=(F.cons "high" (.int (max d i.hi))).re _ ⋯
     revert j
     generalize upd lo "high" (.int (max d i.hi))=U
     intro j
     have w:∃ z:Int,aG (.ref ro) (nv (bif i.w then 1 else 0)) H=am (.int z,H)/\H.set ro (.list ([V.int b,.int a].set (bif i.w then 1 else 0) (.int (z+i.g))))=H.set ro (.list [.int (b+bif i.w==false then i.g else 0),.int (a+bif i.w==be then i.g else 0)]):=by
      cases i.w with
      |false=>exact⟨b,l5 f rfl (show 2<100000 by decide),by show H.set ro (.list [.int (b+i.g),.int a])=H.set ro (.list [.int (b+i.g),.int (a+0)]);rw[jq]⟩
      |true=>exact⟨a,l5 f rfl (show 2<100000 by decide),by show H.set ro (.list [.int b,.int (a+i.g)])=H.set ro (.list [.int (b+0),.int (a+i.g)]);rw[jq]⟩
     refine xEA w λz w1 w2=>?_
     have R:aG i.v (.int 2) H=am (nv (bif i.w then 1 else 0),H):=by
      unfold Iv.v
      cases i.w<;>rfl
     refine aK ((aW (j _ (.ref ro) ⋯) ((rH s sl (j _ (.ref rm) ⋯) (j _ (nv k) ⋯) G R) _ (Lp.mk w1 ((rH (z:=3) s sl (j _ (.ref rm) ⋯) (j _ (nv k) ⋯) G rfl) _ (Lp.mk rfl ((by exact λ{H r k vs w P} h L vl q=>Lf.mk (wV h ⟨Y198,zzM2 0x157b0ca0f41f68a040020e1d60f41f690001e907da00007 [k,vs.length] ⋯ L vl⟩ (by rw[fQ (fz k) (Y210 L),jb])) q:∀{H:MH}{r k:Nat}{vs:aq V}{w:V}{P:MH->Prop}(h:H[r]? =am (.list vs))(L:k<vs.length)(vl:vs.length<100000)(q:P (H.set r (.list (vs.set k w)))),Lf (sL (.ref r) (nv k) w H) P) f (by show(bif i.w then 1 else 0)<2;cases i.w<;>decide) (by show 2<100000;decide) (rwL w2 (aQ (aK (Lf.mk (j _ (nv k) ⋯) (cL (Lp.mk rfl (aQ (go.nx ⟨T.length,Y209 I,.mk rfl (zzM1 0x526aa41f6800006a07da40a00047 [k,T.length,S.length] ⋯ n) O (((j.cons "k" (nv (k+1)))).re _ ⋯) (p.set D.o) (aM E D.ne.symm) (aP f _) ab (rwR A (Y207:b+(bif i.w==false then i.g else 0)+cD false e=b+((bif i.w==false then i.g else 0)+cD false e))) ?_⟩)))))))))))))))
     ·exact rwR C (Y207:a+(bif i.w==be then i.g else 0)+cD be e=a+((bif i.w==be then i.g else 0)+cD be e)):∀{H:MH}{B:MH}{K:SK}{Q:SK}{lo:Lo}{S:aq Iv}{rm:Nat}{rh:Nat}{ro:Nat}{acc:aq Hd}{l r M N h' d b a:Int}{i:Iv}{T e S2:aq Iv}{k m:Nat}(D:MetB B S rm rh ro)(I:T.length+1=m)(n:k+(T.length+1)=S.length)(u:S.drop k=i::T)(F:Fs (fIn rm rh ro k d l r) lo)(p:Hx B H)(E:H[rh]? =am (.list (acc.map Hd.v)))(f:H[ro]? =am (.list [.int b,.int a]))(ab:Ab (max d i.hi) T e S2 h')(A:b+cD false (i::e)=M)(C:a+cD be (i::e)=N)(go:GoK (λlo' H'=>∃ m',m'<m/\FI B S rm rh ro acc l r M N h' S2 m' lo' H') Q K),fBd lo H K) D I n u F p E f ab A C go
   ·rw[bp c]
    cases ab with
    |stop t=>exact k (.mk n u F p E (by rw[<-A,<-C,show cD false []=0 from rfl,show cD be []=0 from rfl,jq,jq];exact f))
    |go z _=>exact bv z c
inductive FO(B:MH)(S:aq Iv)(rm rh ro:Nat)(R:aq Hd)(m:Nat)(lo:Lo)(H:MH):Prop
 |mk {k:Nat}{mm nn:Int}{T:aq Iv}{acc R2:aq Hd} (em:T.length=m) (ek:k+T.length=S.length) (eS:S.drop k=T) (F:Fs (fF rm rh ro k) lo) (hx:Hx B H) (hh:H[rh]? =am (.list (acc.map Hd.v))) (hm:H[ro]? =am (.list [.int mm,.int nn]))
  (fo:Fo mm nn T R2) (er:acc++R2=R) (al:acc.length+T.length<=S.length):FO B S rm rh ro R m lo H
theorem sR{L:aq (Str×V)}(a:H[ro]? =am (.list [.int x,.int y]))(b:lo "more" =am (.ref ro))(e: [V.int x,V.int y][k]? =am (.int z)):Evv (aA aG (eN "more") (eK (nv k))) lo H (.int z):=.bin (.n b) .k (l5 a e (show 2<100000 by decide))
theorem Ab.app{b:aq Iv}(a:Ab h T b S2 h'):T=b++S2:=by
 induction a with
 |stop _=>rfl
 |go _ _ c=>rw[c];rfl
theorem aI4{a:Int}(D:MetB B S rm rh ro)(P:T.length+1=m)(V:k+(T.length+1)=S.length)(I:S.drop k=i::T)(F:Fs (fF rm rh ro k) lo)(w:Hx B H)(O:H[rh]? =am (.list (acc.map Hd.v)))(x:H[ro]? =am (.list [.int c,.int a]))(ab:Ab i.hi (i::T) e S2 h')(N:Fo (c+cD false e) (a+cD be e) S2 G)(M:acc++⟨i.lo-c,h'-(c+cD false e),i.lo+a,h'+(a+cD be e)⟩::G=R)(al:acc.length+(T.length+1)<=S.length)(go:GoK (λlo' H'=>∃ m',m'<m/\FO B S rm rh ro R m' lo' H') Q K):fOut lo H K:=by
 obtain⟨A,W⟩:=xW I
 have sl:=D.l
 refine aK (jY (eO (aO ((rH (z:=0) (w _ _ D.m) sl (F _ (.ref rm) ⋯) (F _ (nv k) ⋯) A rfl) _ (aO ((rH (z:=1) (w _ _ D.m) sl (F _ (.ref rm) ⋯) (F _ (nv k) ⋯) A rfl) _ (bF ⟨(show 2<100 by decide),Lf.mk rfl ⟨rfl,Lf.mk (p:=upd (upd lo "high" (.int i.hi)) "low" (.int i.lo)) ⋯ (aQ (aK ?_))⟩⟩)))))))
 have F1:=(F.cons "high" (.int i.hi)).cons "low" (.int i.lo)
 revert F1
 generalize upd (upd lo "high" (.int i.hi)) "low" (.int i.lo)=d
 refine λF1=>(jY (eO (aO ((.bin (.n (F1 _ _ ⋯)) (sR (k:=0) (L:=[]) x (F1 _ (.ref ro) ⋯) rfl) mV:Evv (aA bL (eN "low") (aA aG (eN "more") (eK (.int 0)))) d H (.int (i.lo-c))) _ (aO ((.bin (.n (F1 _ _ ⋯)) (sR (k:=1) (L:=[]) x (F1 _ (.ref ro) ⋯) rfl) jB:Evv (aA aH (eN "low") (aA aG (eN "more") (eK (.int 1)))) d H (.int (i.lo+a))) _ (bF ⟨(show 2<100 by decide),Lf.mk rfl ⟨rfl,Lf.mk (p:=upd (upd d "right" (.int (i.lo+a))) "left" (.int (i.lo-c))) ⋯ (aQ (aK ?_))⟩⟩)))))))
 have s:Fs (fIn rm rh ro k i.hi (i.lo-c) (i.lo+a)) (upd (upd d "right" (.int (i.lo+a))) "left" (.int (i.lo-c))):=((F1.cons "right" (.int (i.lo+a))).cons "left" (.int (i.lo-c))).re _ ⋯
 revert s
 generalize upd (upd d "right" (.int (i.lo+a))) "left" (.int (i.lo-c))=U
 intro s
 have y:=b3 List.length ab.app
 rw[bq,ea]at y
 refine fin_ok (h':=h') D (.mk (T:=i::T) rfl V I s w O x ab rfl rfl) λ{r E} J=>aQ (aK ?_)
 cases J with
 | @mk X u C f t j g=>
 have o:0<e.length:=by
  cases ab with
  |stop q=>have:=q i rfl;have:=D.b i (eg A);omega
  |go _ _=>exact Nat.succ_pos _
 exact uD (f _ (.ref rh) ⋯) j (eO (aO (aW (f _ (.int (i.lo-c)) ⋯) (aO ((.bin (.n (f _ _ ⋯)) (sR (k:=0) (L:=[]) g (f _ (.ref ro) ⋯) rfl) mV:Evv (aA bL (eN "high") (aA aG (eN "more") (eK (.int 0)))) r E (.int (h'-(c+cD false e)))) _ (aO (aW (f _ (.int (i.lo+a)) ⋯) (aO ((.bin (.n (f _ _ ⋯)) (sR (k:=1) (L:=[]) g (f _ (.ref ro) ⋯) rfl) jB:Evv (aA aH (eN "high") (aA aG (eN "more") (eK (.int 1)))) r E (.int (h'+(a+cD be e)))) _ (bF ⟨(show 4<100 by decide),uE j (by rw[bg];exact zzM2 0x157b0ca0f41f680007e8f41f6a0001ea07da40a00007 [acc.length,T.length,S.length] ⋯ al sl) (aQ (go.nx ⟨S2.length,zzM3 0x151a41f6b000a81f40f40007aea001f680011e907da00047 [T.length,m,e.length,S2.length] ⋯ P y o,.mk (acc:=acc++[⟨i.lo-c,h'-(c+cD false e),i.lo+a,h'+(a+cD be e)⟩]) rfl u C (f.re _ ⋯) (t.set D.h) (by exact rwL bI (aP j _)) (aM g D.ne) N (by rw[dt];exact M) (rwL bq (zzM3 0xa9aac07da00000ac1f40f40007b2b001f690011ea07da40a00007 [acc.length,T.length,S.length,e.length,S2.length] ⋯ al y o:acc.length+1+S2.length<=_))⟩))⟩))))))))))
theorem qG{A1:Nat}{one two:aq Hd}(h1:H[r1]? =am (.list (one.map Hd.v)))(h2:H[r2]? =am (.list (two.map Hd.v)))(b1:Hs A1 B1 one)(b2:Hs B1 C1 two)(t:B1<1000)(M:one.length+two.length<64)(fd:Fd one two R)(k:∀ {H' r},Hx H H'->H'[r]? =am (.list (R.map Hd.v))->Q (.ref r) H'):dB X [.ref r1,.ref r2] H Q:=by
 refine⟨rfl,?_⟩
 have F:Fs [("two",.ref r2),("one",.ref r1)] (loB ["one","two"] [.ref r1,.ref r2] lo0):=(Fs.cons (l:=[]) nofun "one" (.ref r1)).cons "two" (.ref r2)
 refine(?_:kW X (loB ["one","two"] [.ref r1,.ref r2] lo0) H (kK Q))
 revert F
 generalize loB ["one","two"] [.ref r1,.ref r2] lo0=lo
 intro F
 obtain⟨S,o,pw,sd⟩:=(by
  intro A B C one two t h1 h2
  have bd:∀ i∈one.map hv1++two.map hv2,0<=i.hi/\i.hi<1000:=λi m=>by
   rcases e7.mp m with m |m
   ·obtain⟨h,s,rfl⟩:=nq.mp m
    exact(Y181 t (h1.b h s):0<=h.j2/\h.j2<1000)
   ·obtain⟨h,s,rfl⟩:=nq.mp m
    exact(Y179 t (h2.b h s):0<=h.i2/\h.i2<1000)
  have nd:(one.map hv1++two.map hv2).Pairwise λx y=>kI x≠kI y:=by
   refine List.pairwise_append.mpr ⟨?_,?_,?_⟩
   ·refine r7.mpr ((List.Pairwise.and_mem.mp h1.p).imp λ{x y} q e=>?_)
    exact Y180 (h1.b x q.1) ((xK (by exact(Y181 t (h1.b x q.1):0<=x.j2/\x.j2<1000)) (by exact(Y181 t (h1.b y q.2.1):0<=y.j2/\y.j2<1000)) e).1) q.2.2.2
   ·refine r7.mpr ((List.Pairwise.and_mem.mp h2.p).imp λ{x y} q e=>?_)
    exact Y178 (h2.b x q.1) ((xK (by exact(Y179 t (h2.b x q.1):0<=x.i2/\x.i2<1000)) (by exact(Y179 t (h2.b y q.2.1):0<=y.i2/\y.i2<1000)) e).1) q.2.2.1
   ·intro i U j mj e
    have e:=(xK (bd i (ka _ U)) (bd j (jr _ mj)) e).2
    obtain⟨x,_,rfl⟩:=nq.mp U
    obtain⟨y,_,rfl⟩:=nq.mp mj
    cases e
  have o:=List.mergeSort_perm (one.map hv1++two.map hv2) λx y=>decide (kI x<=kI y)
  have W:=List.pairwise_mergeSort (le:=λx y:Iv=>decide (kI x<=kI y)) (λa b c h g=>bm (dw (cb h) (cb g))) (λa b=>by
   rcases Int.le_total (kI a) (kI b) with q |q
   ·rw[bm q];rfl
   ·rw[bm q,Bool.or_true]) (one.map hv1++two.map hv2)
  revert o W
  generalize (one.map hv1++two.map hv2).mergeSort (λx y=>decide (kI x<=kI y))=S
  intro o W
  have st:S.Pairwise λx y=>x.v.lt y.v=am be/\x.lo<=y.lo:=(List.Pairwise.and_mem.mp (W.and ((o.pairwise_iff λ{x y} h=>Ne.symm h).mpr nd))).imp λ{x y} q=>
   kI_lt (bd x (o.mem_iff.mp q.1)) (bd y (o.mem_iff.mp q.2.1)) (by exact Y44 (cb q.2.2.1) q.2.2.2)
  exact⟨S,o,st.imp λq=>q.1,st.imp λq=>q.2⟩:∀{A B C:Nat}{one two:aq Hd}(t:B<1000)(h1:Hs A B one)(h2:Hs B C two),∃ S:aq Iv,S.Perm (one.map hv1++two.map hv2)/\S.Pairwise (λx y=>x.v.lt y.v=am be)/\Sl S) t b1 b2
 have L:=fd S o sd
 have sl:=o.length_eq
 rw[bq,bg,bg]at sl
 refine aK (cE ((by
  intro C H lo x r l Q N h K k
  exact cZ Hd.v (λh=>[(hv1 h).v]) (λ_=>qm) l N (aL h) trivial (by rw[cB,bg];exact Y213 K) (λh _=>⟨λ{G H1 acc P} _ x ha z E=>(hT_i λ{n} J=>wP (eO (aO (aW J.j1 (aO (aW J.j2 (aO (cL (aO (mvE_e J _ (bF ⟨(show 4<100 by decide),vA (aI H) x ha z rfl trivial E⟩)))))))))))⟩) λ{H'} x h'=>k x (by rw[h',cB,pp];rfl):∀{C:Cx}{H:MH}{lo:Lo}{x:Str}{r:Nat}{l:aq Hd}{Q:EK}(N:lo x=am (.ref r))(h:H[r]? =am (.list (l.map Hd.v)))(K:l.length<100000)(k:∀ {H'},Hx H H'->H'[H.length]? =am (.list ((l.map hv1).map Iv.v))->Q (.ref H.length) H'),bU (bB C) [".0","i1","i2","j1","j2"] (iL (eN x)) hT (tK be) (bA (bH (esC (eN "j1") (esC (eN "j2") (esC (eK (.int 0)) (esC mvE esN)))))) lo H Q) (F _ (.ref r1) ⋯) h1 (zzM1 0x14387583d07da0000283d07da68000007 [one.length,two.length] ⋯ M) (λ{H1} x1 m1=>aQ (aK ?_))))
 have F1:=F.cons "met" (.ref H.length)
 revert F1
 generalize upd lo "met" (.ref H.length)=G
 refine λF1=>(cE (bG (aO (bJ (aW (F1 _ (.ref H.length) ⋯) ((by
  intro C H lo x r l Q N h K k
  exact cZ Hd.v (λh=>[(hv2 h).v]) (λ_=>qm) l N (aL h) trivial (by rw[cB,bg];exact Y213 K) (λh _=>⟨λ{G H1 acc P} _ x ha z E=>(hT_i λ{n} J=>wP (eO (aO (aW J.i1 (aO (aW J.i2 (aO (cL (aO (mvE_e J _ (bF ⟨(show 4<100 by decide),vA (aI H) x ha z rfl trivial E⟩)))))))))))⟩) λ{H'} x h'=>k x (by rw[h',cB,pp];rfl):∀{C:Cx}{H:MH}{lo:Lo}{x:Str}{r:Nat}{l:aq Hd}{Q:EK}(N:lo x=am (.ref r))(h:H[r]? =am (.list (l.map Hd.v)))(K:l.length<100000)(k:∀ {H'},Hx H H'->H'[H.length]? =am (.list ((l.map hv2).map Iv.v))->Q (.ref H.length) H'),bU (bB C) [".0","i1","i2","j1","j2"] (iL (eN x)) hT (tK be) (bA (bH (esC (eN "i1") (esC (eN "i2") (esC (eK (.int 1)) (esC mvE esN)))))) lo H Q) (F1 _ (.ref r2) ⋯) (x1 _ _ h2) (zzM1 0x14387583d07da4000283d07da68000007 [one.length,two.length] ⋯ M) (λ{u} x2 m2=>jK (x2 _ _ m1) m2 (by rw[bg,bg,bg,bg];exact zzM1 0x15ec3283d07da6800000283d07da68000007 [one.length,two.length] ⋯ M) (bF (rwR bI ((Lf.mk (aL (aT _ _)) ⟨by rw[bg];exact (by rw[bq,bg,bg];exact M),λv hv=>by
     obtain⟨x,_,rfl⟩:=nq.mp hv
     rfl,S.map Iv.v,o.map _,r7.mpr pw,(aQ (aK ?_))⟩)))))))))))
 have x4:Hx H (u++[MO.list (List.map Iv.v (one.map hv1++two.map hv2))]++[MO.list (S.map Iv.v)]):=((x1.trans x2).trans (.app _ _)).trans (.app _ _)
 have hM:=aT (u++[MO.list (List.map Iv.v (one.map hv1++two.map hv2))]) (MO.list (S.map Iv.v))
 have F2:=F1.cons "met" (.ref (u++[MO.list (List.map Iv.v (one.map hv1++two.map hv2))]).length)
 revert x4 hM F2
 generalize upd G "met" (.ref (u++[MO.list (List.map Iv.v (one.map hv1++two.map hv2))]).length)=n
 generalize u++[MO.list (List.map Iv.v (one.map hv1++two.map hv2))]++[MO.list (S.map Iv.v)]=d
 generalize (u++[MO.list (List.map Iv.v (one.map hv1++two.map hv2))]).length=I
 refine λx4 hM F2=>(jY (eO (aO (pY (aO ((by exact λ{H lo f g Q} h=>h:∀{H:MH}{lo:Lo}{f g:EF}{Q:EK}(h:f lo H λv H1=>g lo H1 λw u=>Lp (mkL [v,w] u) Q),cX (esC f (esC g esN)) lo H Q) (cL (cL (Lp.mk (by exact ca (show 2<1000000 by decide)) (aO (cL (bF ⟨(show 3<100 by decide),Lf.mk rfl ⟨rfl,Lf.mk (p:=upd (upd (upd n "k" (nv 0)) "more" (.ref (d++[MO.list []]).length)) "heads" (.ref d.length)) ⋯ (aQ (aK ?_))⟩⟩))))))))))))
 have F3:Fs (fF I d.length (d++[MO.list []]).length 0) (upd (upd (upd n "k" (nv 0)) "more" (.ref (d++[MO.list []]).length)) "heads" (.ref d.length)):=(((F2.cons "k" (nv 0)).cons "more" (.ref (d++[MO.list []]).length)).cons "heads" (.ref d.length)).re _ ⋯
 have q1:(d++[MO.list []]++[MO.list [.int 0,.int 0]])[d.length]? =am (.list []):=(Hx.app _ _) _ _ (aT _ _)
 have q2:=aT (d++[MO.list []]) (MO.list [.int 0,.int 0])
 have V:Hx d (d++[MO.list []]++[MO.list [.int 0,.int 0]]):=(Hx.app _ _).trans (.app _ _)
 have D:MetB d S I d.length (d++[MO.list []]).length:=⟨hM,zzM2 0x95fa3d07da80029a00a811c283d07da68000007 [one.length,two.length,S.length] ⋯ M sl,aI _,(Hx.app d [MO.list []]).fresh,by exact rwL bq ((oy _).symm),λi U=>by
  rcases e7.mp (o.mem_iff.mp U) with q |q
  ·obtain⟨h,s,rfl⟩:=nq.mp q
   exact(b1.b h s).2.2.2.2.1
  ·obtain⟨h,s,rfl⟩:=nq.mp q
   exact(b2.b h s).2.1⟩
 revert F3 q1 q2 V D
 generalize upd (upd (upd n "k" (nv 0)) "more" (.ref (d++[MO.list []]).length)) "heads" (.ref d.length)=ak
 generalize d++[MO.list []]++[MO.list [.int 0,.int 0]]=H5
 generalize (d++[MO.list []]).length=ro
 generalize d.length=rh
 refine λF3 q1 q2 V D=>⟨_,yS (FO d S I rh ro R) (λ{m lo H'} J=>?_) (S.length+1) S.length (qc _) (.mk (acc:=[]) rfl (Nat.zero_add _) rfl F3 V q1 q2 L rfl (Nat.le_of_eq (Nat.zero_add _)))⟩
 cases J with
 | @mk E mm nn T acc R2 em Y eS F O hh s L Z al=>
 cases L with
 |nil=>
  refine⟨false,λP q=>z0 (k:=E) (F _ _ ⋯) (F _ (.ref I) ⋯) (O _ _ D.m) (bg ..) (iq D.l (by decide)) (rwL (bp (by exact Y206 (rwR ky Y))) q),?_⟩
  ·rw[gz]at Z
   refine aQ (aK (jI (aW (F _ (.ref rh) ⋯) ?_)))
   exact k (x4.trans O) (rwR Z hh)
 | @cons _ _ h' i T S1 S2 R2 ab L=>
  exact⟨be,λP q=>z0 (k:=E) (F _ _ ⋯) (F _ (.ref I) ⋯) (O _ _ D.m) (bg ..) (iq D.l (by decide)) (rwL (bm (show E<S.length by exact Y205 (rwR ea Y))) q),λK go=>aI4 D em Y eS F O hh s ab L Z al go⟩
def loO(o:Op)(lo:Lo):Lo:=upd (upd (upd (upd (upd lo "tag" (.str o.tag.s)) "i1" (.int o.i1)) "i2" (.int o.i2)) "j1" (.int o.j1)) "j2" (.int o.j2)
def cT:AF:=uF 5 (asC (aN "tag") (asC (aN "i1") (asC (aN "i2") (asC (aN "j1") (asC (aN "j2") asN)))))
def tOp:AF:=cM 5 (asC (aN "tag") (asC (aN "i1") (asC (aN "i2") (asC (aN "j1") (asC (aN "j2") asN)))))
def opL(o:Op)(F:aq (Str×V)):aq (Str×V):=("j2",.int o.j2)::("j1",.int o.j1)::("i2",.int o.i2)::("i1",.int o.i1)::("tag",.str o.tag.s)::F
theorem Fs.op(h:Fs F lo)(o:Op):Fs (opL o F) (loO o lo):=((((h.cons "tag" (.str o.tag.s)).cons "i1" (.int o.i1)).cons "i2" (.int o.i2)).cons "j1" (.int o.j1)).cons "j2" (.int o.j2)
theorem tag_eq(o:Op):eqv H (.str o.tag.s) (.str "equal")=am o.tag.isEq:=by
 obtain⟨t,_,_,_,_⟩:=o
 cases t<;>kernel_rfl
theorem wS{o:Op}(a:lo "tag" =am (.str o.tag.s))(q:P (f o.tag.isEq) H):tE (aA (aX f) (eN "tag") (eK (.str "equal"))) lo H P:=te_i (bJ (aW a (cL (Lp.mk (by delta aX;rw[tag_eq];rfl) (Lf.mk rfl q)))))
theorem uN{l:aq Op}(h:H[r]? =am (.list (l.map Op.v)))(d:l.length<100000)(k:∀ {H' b},Hx H H'->H'[b]? =am (.list ((l.map Op.sw).map Op.v))->H[b]? =ba->Q (.ref b) H'):cC X [.ref r] H Q:=by
 refine⟨rfl,?_⟩
 show iK X (loB ["codes"] [.ref r] lo0) H (kK Q)
 have hn:loB ["codes"] [.ref r] lo0 "codes" =am (.ref r):=by kernel_rfl
 revert hn
 generalize loB ["codes"] [.ref r] lo0=lo
 refine λhn=>(aK (jI (cZ Op.v (λo=>[o.sw.v]) (λg=>qm) l hn (aL h) trivial (by rw[cB,bg];exact Y213 d) (λo g=>⟨λ{a H1 acc P} g x f c e=>?_⟩) λ{H'} x h'=>?_)))
 ·refine (by exact λ{H lo o R} q=>kch (B:=(5=5/\R (loO o lo) H)) ⋯ ⟨rfl,q⟩:∀{H:MH}{lo:Lo}{o:Op}{R:Lo->MH->Prop}(q:R (loO o lo) H),cT o.v lo H R) (wP ?_)
  have G:=(Fs.op (F:=[]) (lo:=a) nofun o)
  exact eO (aO (aW (G _ (.str o.tag.s) ⋯) (aO (aW (G _ (.int o.j1) ⋯) (aO (aW (G _ (.int o.j2) ⋯) (aO (aW (G _ (.int o.i1) ⋯) (aO (aW (G _ (.int o.i2) ⋯) (bF ⟨(show 5<100 by decide),vA (aI H) x f c rfl trivial e⟩)))))))))))
 ·exact k x (by rw[h',cB,pp];rfl) (aI H)
theorem mQ(h:H[r]? =am (.list (l.map Op.v)))(b:l.length<100000)(k:∀ {H' a},Hx H H'->H'[a]? =am (.list ((chg l).map Op.v))->H[a]? =ba->Q (.ref a) H'):bS X [.ref r] H Q:=by
 refine⟨rfl,?_⟩
 show g8 X (loB ["codes"] [.ref r] lo0) H (kK Q)
 have hn:loB ["codes"] [.ref r] lo0 "codes" =am (.ref r):=by kernel_rfl
 revert hn
 generalize loB ["codes"] [.ref r] lo0=lo
 exact λhn=>(aK (jI (cZ Op.v vB (λq=>qm) l hn (aL h) trivial (by rw[lG,bg];exact Y243 b (lX l)) (λo q=>aDk (aI H)) λ{H'} x h'=>k x (by rw[h',lG]) (aI H))))
def pN(ra rb rw:Nat):aq (Str×V):=[("old",.ref ra),("new",.ref rb),("work",.ref rw)]
theorem aGa(k:lo x=am (.ref r))(h:LI H r l)(f:l.length<1000)(e:Evv f1 lo H (.int i))(g:Evv f2 lo H (.int j))(b:0<=i/\i<=j/\j<=l.length)(q:Q (.ref H.length) (H++[.list ((sl l i j).map V.int)])):eX (eN x) f1 f2 (eK .none) lo H Q:=by
 exact iN (aW k (e _ (g _ (cL (Lf.mk rfl (Lf.mk rfl (Lf.mk rfl (lC h (by rw[bg];exact Y223 f) (by decide) (rwL ((by
  intro l i j c a d
  rw[kN,hO]
  show((l.drop (pe l.length i)).take (pe l.length j-pe l.length i)).map V.int=_
  rw[oW c (dw a d),oW (dw c a) d];rfl:∀{l:aq Int}{i j:Int}(c:0<=i)(a:i<=j)(d:j<=l.length),pk (l.map V.int) (am i) (am j) ba=(sl l i j).map V.int) b.1 b.2.1 b.2.2) q)))))))))
inductive PI(B:MH)(ra rb rw:Nat)(a b:aq Int)(L:aq (Str×V))(x y:Int)(rest:aq V)(lo:Lo)(H:MH):Prop
 |mk {i j:Int}{q:aq Op} (er:rest=q.map Op.v) (c:Cq a b i j q x y) (i0:0<=i) (j0:0<=j) (F:Fs L lo) (hx:Hx B H) (hw:H[rw]? =am (.list ((sl b 0 j).map V.int))):PI B ra rb rw a b L x y rest lo H
def pOut:SF:=(aB (bE (xV (eN "work") (eX (eN "old") (eN "seen") (aA aG (aA aG (eN "group") (eK (.int 0))) (eK (.int 1))) (eK .none)))) (aB (gP (bB C) (iL (eN "group")) tOp pIn) (aB (aV "seen" (aA aG (aA aG (eN "group") (cS (eK (.int 1)))) (eK (.int 2)))) (sK .next))))
def pS(ra rb rw:Nat)(e:Int):aq (Str×V):=("seen",.int e)::pN ra rb rw
inductive PO(B:MH)(ra rb rw:Nat)(a b:aq Int)(rest:aq V)(lo:Lo)(H:MH):Prop
 |mk {s:ec}{e f:Int}{q:aq (Nat×aq Op)} (er:rest=q.map gv) (g:GL a b s e f (q.map Prod.snd)) (e0:0<=e) (f0:0<=f) (F:Fs (pS ra rb rw e) lo) (hx:Hx B H) (hw:H[rw]? =am (.list ((sl b 0 f).map V.int))) (hg:HG B q) (gl:∀ p∈q,p.2.length<1000):PO B ra rb rw a b rest lo H
theorem zW{L:aq (Str×V)}(h:H[r]? =am (.list (g.map Op.v)))(a:g≠ [])(b:lo "group" =am (.ref r))(c:g.length<1000):Evv (aA aG (aA aG (eN "group") (eK (.int 0))) (eK (.int 1))) lo H (.int (s1 g)):=by
 cases g with
 |nil=>exact bv rfl a
 |cons o g=>exact .bin (.bin (.n b) .k (l5 h rfl (by rw[bg];exact Y233 c))) .k rfl
theorem g_lst{L:aq (Str×V)}(h:H[r]? =am (.list (g.map Op.v)))(a:g≠ [])(b:lo "group" =am (.ref r)):Evv (aA aG (aA aG (eN "group") (cS (eK (.int 1)))) (eK (.int 2))) lo H (.int (s2 g)):=by
 rcases oF g with q |⟨g,o,rfl⟩
 ·exact bv q a
 ·exact rwL ((s2_at o g).1) (λQ q=>bJ (bJ (aW b (mE (Lp.mk (lM (bI▸h)) (cL (Lp.mk rfl q)))))))
theorem aBj{ps:aq (Nat×aq Op)}(T:LI H ra a)(hb:LI H rb b)(al:a.length<1000)(M:b.length<1000)(h:H[rg]? =am (.list (ps.map gv)))(Z:HG H ps)(G:GL a b false 0 0 (ps.map Prod.snd))(gl:∀ p∈ps,p.2.length<1000)(pl:ps.length<100000)(k:∀ {H' r},Hx H H'->LI H' r b->Q (.ref r) H'):fH X [.ref ra,.ref rb,.ref rg] H Q:=by
 refine⟨rfl,?_⟩
 have F:Fs [("groups",.ref rg),("new",.ref rb),("old",.ref ra)] (loB ["old","new","groups"] [.ref ra,.ref rb,.ref rg] lo0):=((Fs.cons (l:=[]) nofun "old" (.ref ra)).cons "new" (.ref rb)).cons "groups" (.ref rg)
 revert F
 generalize loB ["old","new","groups"] [.ref ra,.ref rb,.ref rg] lo0=lo
 refine λF=>(aK (jY (eO (aO (pY (aO (cL (bF ⟨(show 2<100 by decide),Lf.mk rfl ⟨rfl,Lf.mk (p:=upd (upd lo "seen" (.int 0)) "work" (.ref H.length)) ⋯ (aQ (aK ?_))⟩⟩))))))))
 have F1:=(F.cons "seen" (.int 0)).cons "work" (.ref H.length)
 have f1:=aI H
 have z:Hx H (H++[MO.list []]):=.app _ _
 have q1:=aT H (MO.list [])
 revert F1 f1 z q1
 generalize upd (upd lo "seen" (.int 0)) "work" (.ref H.length)=lo1
 generalize H.length=rw
 generalize H++[MO.list []]=H1
 refine λF1 f1 z q1=>(kJ (iL_i (λq=>aW (F1 _ (.ref rg) ⋯) q) (aL (z _ _ h)) ⟨_,gC (PO H ra rb rw a b) (λI=>?_) (λ{di H5} I=>?_) (λI N=>(by
  intro C H B K Q lo a b ra rb rw T hb A al M v u I N
  cases I with
  | @mk s e f q S g e0 W F D E Z gl=>
  cases q with
  |nil=>cases S
  |cons p q=>
  cases S
  cases g with
  | @cons _ _ _ t x y _ _ t0 st m c ne h=>
  have cl:=c.le
  have w:=h.le
  have hd:=c.hd ne
  have F1:=F.cons "group" (.ref p.1)
  refine(?_:pOut (upd lo "group" (.ref p.1)) H K)
  revert F1
  generalize upd lo "group" (.ref p.1)=lo1
  intro F1
  have tl:=Y232 cl w
  refine aK (xQ (F1 _ (.ref rw) ⋯) E (aGa (F1 _ (.ref ra) ⋯) (D.li T) al (.n (F1 _ (.int e) ⋯)) (hd.1▸(zW (L:=[]) (D _ _ (Z p c3)) ne (F1 _ (.ref p.1) ⋯) (gl p c3))) ⟨e0,Y230 t0,tl⟩ ?_))
  have z:Hx H (H++[.list ((sl a e (e+t)).map V.int)]):=.app _ _
  have Y:=gZ (c4 _) W (Y231 t0 cl w)
  have J:=gZ e0 (Y230 t0) tl
  refine xS (z _ _ E) (aT _ _) (by rw[bg,bg];exact Y229 M cl w Y J) (aQ (aK (rwL (by rw[<-bI,aC3 m e0 W tl (Y228 cl w) t0,sF W (Y227 J)]:(sl b 0 f).map V.int++(sl a e (e+t)).map V.int=(sl b 0 (f+t)).map V.int) ?_)))
  have db:((H++[MO.list ((sl a e (e+t)).map V.int)]).set rw (.list ((sl b 0 (f+t)).map V.int)))[rw]? =am (.list ((sl b 0 (f+t)).map V.int)):=aP (z _ _ E) _
  have x2:Hx B ((H++[MO.list ((sl a e (e+t)).map V.int)]).set rw (.list ((sl b 0 (f+t)).map V.int))):=(D.trans z).set A
  revert db x2
  generalize (H++[MO.list ((sl a e (e+t)).map V.int)]).set rw (.list ((sl b 0 (f+t)).map V.int))=H2
  intro db x2
  have dc:=Z p c3
  refine kJ (iL_i (λq=>aW (F1 _ (.ref p.1) ⋯) q) (aL (x2 _ _ dc)) ⟨_,gC (PI B ra rb rw a b (("group",.ref p.1)::pS ra rb rw e) x y) (λI=>?_) (λ{di H5} I=>?_) (λI N=>(by
   intro H B K Q lo a b ra rb rw L T hb A al M hL oL x y xa P v u I N
   cases I with
   | @mk i j q S c i0 U F D E=>
   cases q with
   |nil=>cases S
   |cons o q=>
   cases S
   have o5:=iu.mp oL
   refine (by exact λ{H lo o R} q=>kch (B:=(5=5/\R (loO o lo) H)) ⋯ ⟨rfl,q⟩:∀{H:MH}{lo:Lo}{o:Op}{R:Lo->MH->Prop}(q:R (loO o lo) H),tOp o.v lo H R) ?_
   have FL:Fs L (loO o lo):=((((F.up (o5 "tag" (by decide+kernel))).up (o5 "i1" (by decide+kernel))).up (o5 "i2" (by decide+kernel))).up (o5 "j1" (by decide+kernel))).up (o5 "j2" (by decide+kernel))
   have G:=(F.re (pN ra rb rw) hL).op o
   cases c with
   | @eq _ _ k _ _ _ O m h=>
    have w:=h.le
    revert FL G
    generalize loO (eqO i j k) lo=lo1
    refine λFL G=>(aK (xQ (G _ (.ref rw) ⋯) E (aAn (wS (o:=eqO i j k) (G _ _ ⋯) (aGa (G _ (.ref ra) ⋯) (D.li T) al (.n (G _ _ ⋯)) (.n (G _ _ ⋯)) ⟨i0,Y230 O,Y240 xa w⟩ ?_)))))
    have z:Hx H (H++[.list ((sl a i (i+k)).map V.int)]):=.app _ _
    have Y:=gZ (c4 _) U (Y242 P O w)
    have J:=gZ i0 (Y230 O) (Y240 xa w)
    exact xS (z _ _ E) (aT _ _) (by rw[bg,bg];exact Y241 M P w Y J) (aQ (N.nx (.mk rfl h (Y226 i0 J) (Y225 Y J) FL ((D.trans z).set A) (rwR (by rw[<-bI,aC3 m i0 U (Y240 xa w) (Y239 P w) O,sF U (Y227 J)]:(sl b 0 j).map V.int++(sl a i (i+k)).map V.int=(sl b 0 (j+k)).map V.int) (aP (z _ _ E) _)))))
   | @ch _ _ i' j' _ _ g _ Z hi hj h=>
    have w:=h.le
    revert FL G
    generalize loO (chO g i j i' j') lo=lo1
    refine λFL G=>(aK (xQ (G _ (.ref rw) ⋯) E (aAn (wS (o:=chO g i j i' j') (G _ _ ⋯) (rwL (show id g.isEq=false from Z) (aGa (G _ (.ref rb) ⋯) (D.li hb) M (.n (G _ _ ⋯)) (.n (G _ _ ⋯)) ⟨U,hj,Y237 P w⟩ ?_))))))
    have z:Hx H (H++[.list ((sl b j j').map V.int)]):=.app _ _
    have Y:=gZ (c4 _) U (Y238 P hj w)
    exact xS (z _ _ E) (aT _ _) (by rw[bg,bg];exact Y236 M P w Y (gZ U hj (Y237 P w))) (aQ (N.nx (.mk rfl h (zzI2 0x56903d0a9a021e803d087 [i,i'] ⋯ i0 hi) (Y234 Y (gZ U hj (Y237 P w))) FL ((D.trans z).set A) (rwR bI (rwL (sF U hj) (aP (z _ _ E) _)))))):∀{H:MH}{B:MH}{K:SK}{Q:SK}{lo:Lo}{a:aq Int}{b:aq Int}{ra:Nat}{rb:Nat}{rw:Nat}{L:aq (Str×V)}(T:LI B ra a)(hb:LI B rb b)(A:B[rw]? =ba)(al:a.length<1000)(M:b.length<1000)(hL:(pN ra rb rw).map (λp=>L.lookup p.1)=(pN ra rb rw).map λp=>am p.2)(oL:(["tag","i1","i2","j1","j2"].all λx=>off L [x])=be){x y:Int}(xa:x<=a.length)(P:y<=b.length){v:V}{u:aq V}(I:PI B ra rb rw a b L x y (v::u) lo H)(N:GoK (PI B ra rb rw a b L x y u) Q K),tOp v lo H λlo1 H1=>pIn lo1 H1 K) T hb A al M ⋯ ⋯ w.1 w.2 I N) _ 0 rfl (.mk rfl c (Y226 e0 J) (Y225 Y J) F1 x2 db)⟩)
  ·cases I with
   |mk S c i0 U F D=>exact aL (D _ _ dc)
  cases I with
  | @mk i5 j5 q5 de c5 dg df F5 dd dh=>
  cases ox.mp de.symm
  cases c5
  exact aQ (aK (cE (((c.last ne).1▸(g_lst (L:=[]) (dd _ _ dc) ne (F5 _ (.ref p.1) ⋯))) _ (aQ (N.nx (.mk rfl h (Y224 dg) (Y224 df) ((F5.cons "seen" (.int x)).re _ ⋯) dd dh (λd hd=>Z d (eh _ hd)) λd hd=>gl d (eh _ hd))))))):∀{C:Cx}{H:MH}{B:MH}{K:SK}{Q:SK}{lo:Lo}{a:aq Int}{b:aq Int}{ra:Nat}{rb:Nat}{rw:Nat}(T:LI B ra a)(hb:LI B rb b)(A:B[rw]? =ba)(al:a.length<1000)(M:b.length<1000){v:V}{u:aq V}(I:PO B ra rb rw a b (v::u) lo H)(N:GoK (PO B ra rb rw a b u) Q K),aN "group" v lo H λlo1 H1=>pOut (C:=C) lo1 H1 K) T hb f1 al M I N) _ 0 rfl (.mk rfl G (c4 _) (c4 _) (F1.re _ ⋯) z (by exact rwL aHp q1) Z gl)⟩))
 ·cases I with
  |mk S g e0 W F D=>exact aL (D _ _ h)
 ·cases I with
  | @mk s e f q S g e0 W F D E Z=>
  cases ox.mp S.symm
  cases g with
  | @nil _ _ _ t O m ei ej=>
  refine aQ (aK (jI (bJ (aW (F _ (.ref rw) ⋯) (iN (aW (F _ (.ref ra) ⋯) (aW (F _ (.int e) ⋯) (cL (cL (Lf.mk rfl (Lf.mk rfl (Lf.mk rfl (lC (D.li T) (by rw[bg];exact Y223 al) (by decide) ?_)))))))))))))
  rw[kN,y5 e0 (Y222 O ei),<-aC4]
  have x2:Hx H5 (H5++[MO.list (List.map V.int (sl a e a.length))]):=.app _ _
  have J:=gZ e0 (Y222 O ei) (c4 _)
  refine jK (x2 _ _ E) (aT _ _) (by rw[bg,bg];exact Y221 M ei ej (gZ (c4 _) W (Y222 O ej)) J) (k ((D.trans x2).trans (.app _ _)) ?_)
  have eW:(sl b 0 f).map V.int++(sl a e a.length).map V.int=b.map V.int:=by
   rw[<-bI,<-ei,aC3 m e0 W (Y220 ei) (Y220 ej) O,sF W (Y219 ei J),ej,aC4];rfl
  exact rwL eW (aL (aT _ _))
theorem tch_i{a b:V}(h0:Evv f lo H a)(h1:Evv f1 lo H b)(h2:Evv f2 lo H c)(g:d a b H=am (.bool s,H))(h:e b c H=am (.bool t,H))(q:P (s && t) H):tCh d e f f1 f2 lo H P:=by
 refine h0 _ (h1 _ (Lp.mk g (Lf.mk rfl ?_)))
 cases s with
 |false=>exact q
 |true=>exact h2 _ (Lp.mk h (Lf.mk rfl q))
theorem ge_e:oGe (.int x) (.int y) H=am (.bool (decide (x>=y)),H):=rfl
theorem pE{b:ec}(h:Evv f lo H (.bool b))(q:P b H):tE f lo H P:=te_i (h _ (Lf.mk rfl q))
theorem and_b{b:ec}(d:∀ {P:ec->MH->Prop},P b H->f lo H P)(a:b=be->∀ {P:ec->MH->Prop},P c H->g lo H P)(q:P (b && c) H):bC f (bC g (tK be)) lo H P:=by
 refine mC (d ?_)
 cases b with
 |false=>exact q
 |true=>
  refine b7 (mC (a rfl ?_))
  cases c with
  |false=>exact q
  |true=>exact b7 (tk_i q)
theorem or_b{b:ec}(d:∀ {P:ec->MH->Prop},P b H->f lo H P)(a:∀ {P:ec->MH->Prop},P c H->g lo H P)(q:P (b || c) H):tOr f (tOr g (tK false)) lo H P:=by
 refine tor_i (d ?_)
 cases b with
 |true=>exact q
 |false=>
  refine tor_i (a ?_)
  cases c with
  |true=>exact q
  |false=>exact(tk_i (lo:=lo) q)
def kT:AF:=(cM 2 (asC (aN "k") (asC tOp asN)))
def cF(rc:Nat)(n x:Int):aq (Str×V):=[("codes",.ref rc),("n",.int n),("line",.int x)]
inductive CrI(B:MH)(rc:Nat)(n x:Int)(l:aq Op)(p:Nat)(lo:Lo)(H:MH):Prop
 |mk (F:Fs (cF rc n x) lo) (eH:H=B) (e:carr n (l.drop p) (decide (p=0)) x=carr n l be x):CrI B rc n x l p lo H
theorem aGr{a:aq Op}:carr n (c::a) f x=bif c.tag.isEq && (decide (c.i1<=x) && decide (x<c.i2)) && ((f || decide (n<=x-c.i1)) && (a.isEmpty || decide (n<c.i2-x))) then am (x-c.i1+c.j1) else carr n a false x:=rfl
theorem aB4(h:H[rc]? =am (.list (l.map Op.v)))(g:l.length<1000)(k:Q (.int ((carr n l be x).getD (-1))) H):fI X [.ref rc,.int n,.int x] H Q:=by
 refine⟨rfl,?_⟩
 have F:Fs [("line",.int x),("n",.int n),("codes",.ref rc)] (loB ["codes","n","line"] [.ref rc,.int n,.int x] lo0):=((Fs.cons (l:=[]) nofun "codes" (.ref rc)).cons "n" (.int n)).cons "line" (.int x)
 show g9 X (loB ["codes","n","line"] [.ref rc,.int n,.int x] lo0) H (kK Q)
 revert F
 generalize loB ["codes","n","line"] [.ref rc,.int n,.int x] lo0=lo
 refine λF=>(aK ?_)
 have vl:(l.map Op.v).length=l.length:=bg ..
 refine kJ (iL_i (λq=>aW (F _ (.ref rc) ⋯) q) (aL h) ⟨_,qF (CrI H rc n x l) (λI=>?_) (λ{j m} I=>?_) (λ{p v lo H1 K} d I c=>?_) l.length 0 (by rw[vl,Nat.zero_add]) (.mk (F.re _ ⋯) rfl rfl)⟩)
 ·cases I with
  |mk F b e=>exact rwL b (aL h)
 ·cases I with
  |mk F b e=>
  rw[vl,nN.mpr (Nat.le_refl _)]at e
  rw[<-e]at k
  exact rwL b (aQ (aK (jI k)))
 ·cases I with
  |mk F b e=>
  subst b
  have pl:p<l.length:=by
   have:=(List.getElem?_eq_some_iff.mp d).1
   rwa [vl]at this
  rw[gh,getElem?_eq_getElem pl]at d
  refine cxS d ?_
  rw[(List.drop_eq_getElem_cons pl),aGr]at e
  have i:(l.drop (p+1)).isEmpty=decide (p+1=l.length):=by
   have:(l.drop (p+1)).isEmpty=decide ((l.drop (p+1)).length=0):=by cases l.drop (p+1)<;>rfl
   exact rwL this (rwL mB (qt.mpr ⟨λz=>zzM2 0x11214886907da00040f41f680290411e907da00007 [p,l.length] ⋯ pl z,λz=>zzM1 0x10845203d07da00a4106907da00047 [p,l.length] ⋯ z⟩))
  rw[i]at e
  refine (by exact λ{H lo p o R} q=>kch (B:=(2=2/\5=5/\R (loO o (upd lo "k" (nv p))) H)) ⋯ ⟨rfl,rfl,q⟩:∀{H:MH}{lo:Lo}{p:Nat}{o:Op}{R:Lo->MH->Prop}(q:R (loO o (upd lo "k" (nv p))) H),kT (.tup [.int p,o.v]) lo H R) ?_
  have G:=(F.cons "k" (nv p)).op l[p]
  revert G
  generalize loO l[p] (upd lo "k" (nv p))=a
  intro G
  revert e G
  generalize l[p]=o
  intro e G
  have t1:∀ {P:ec->MH->Prop},P (o.tag.isEq && (decide (o.i1<=x) && decide (x<o.i2))) H1->cT1 a H1 P:=λ{P} q=>
   and_b (λ{P} q=>wS (G _ _ ⋯) q) (λr {P} q=>tch_i (.n (G _ _ ⋯)) (.n (G _ _ ⋯)) (.n (G _ _ ⋯)) le_e lt_e q) q
  have t2:∀ {P:ec->MH->Prop},P ((decide (p=0) || decide (n<=x-o.i1)) && (decide (p+1=l.length) || decide (n<o.i2-x))) H1->cT2 a H1 P:=λ{P} q=>by
   refine and_b (λ{P} q=>or_b (λ{P} q=>pE (Evv.bin (.n (G _ (nv p) ⋯)) .k aAk) (by exact rwL (show decide ((p:Int)=0)=decide (p=0) from qt.mpr ⟨λz=>zzM1 0x5240f68040f68a040c7 [p] ⋯ z,λz=>zzM1 0x5240f68a040c0f68047 [p] ⋯ z⟩) q)) (λ{P} q=>pE (Evv.bin (Evv.bin (.n (G _ (.int x) ⋯)) (.n (G _ (.int o.i1) ⋯)) mV) (.n (G _ (.int n) ⋯)) ge_e) q) q) (λr {P} q=>or_b (λ{P} q=>pE (Evv.bin (Evv.bin (.n (G _ (nv p) ⋯)) .k jB) (xH (G _ (.ref rc) ⋯) (aL h) (by exact rwL vl (Y233 g))) aAk) (by rw[vl,show decide ((p:Int)+1=(l.length:Int))=decide (p+1=l.length) from qt.mpr ⟨λz=>zzM1 0x526907da00068a4407da281000c7 [p,l.length] ⋯ z,λz=>zzM1 0x5268a4407da281000e907da00047 [p,l.length] ⋯ z⟩];exact q)) (λ{P} q=>pE (Evv.bin (Evv.bin (.n (G _ (.int o.i2) ⋯)) (.n (G _ (.int x) ⋯)) mV) (.n (G _ (.int n) ⋯)) rfl) q) q) q
  refine aK (uY (t1 ?_))
  revert e
  generalize (o.tag.isEq && (decide (o.i1<=x) && decide (x<o.i2)))=f
  generalize ((decide (p=0) || decide (n<=x-o.i1)) && (decide (p+1=l.length) || decide (n<o.i2-x)))=c2 at t2
  intro e
  cases f with
  |false=>exact aQ (c.nx (.mk (G.re _ ⋯) rfl e))
  |true=>
   refine b7 (aK (uY (t2 ?_)))
   cases c2 with
   |false=>exact aQ (aQ (c.nx (.mk (G.re _ ⋯) rfl e)))
   |true=>
    refine b7 (aK (jI ((.bin (.bin (.n (G _ _ ⋯)) (.n (G _ _ ⋯)) mV) (.n (G _ _ ⋯)) jB:Evv (aA aH (aA bL (eN "line") (eN "i1")) (eN "j1")) a H1 (.int (x-o.i1+o.j1))) _ ?_)))
    rw[<-e]at k
    exact c.rt k
theorem aH0{j:Int}(h1:0<=j):(pk l (am j) ba ba).length<=l.length-j.toNat:=by
 rw[hO]
 show((l.drop (pe l.length j)).take (l.length-pe l.length j)).length<=_
 obtain⟨m,rfl⟩:=jp h1
 rw[clipAt_nat,sM,mB,jb]
 exact (zzM0 0x1010280814040a0901010280814040a0205108080815020281010880808142202020501088084404220501014080a040502028101088084404220501014080a04050202829a01a290e8068a43a010c0 [l.length,m] ⋯)
theorem aIw:oIn id (.int z) (.tup [.int p,.int q]) H=am (.bool ([PyData.int p,PyData.int q].any λy=>PyData.eqv y (.int z)),H):=by kernel_rfl
theorem pick2(a:lo "x" =am (.int z))(k:∀ b,P b H):tE (aA (oIn id) (aA gQ (eN "x") (eK (.int 8))) (bH (esC (eK (.int p)) (esC (eK (.int q)) esN)))) lo H P:=te_i (bJ (Evv.bin (Evv.n a) .k (m4 (by decide)) _ (eO (aO (cL (aO (cL (bF ⟨(show 2<100 by decide),Lp.mk aIw (Lf.mk rfl (k _))⟩))))))))
def vF(rn rv s rk:Nat):aq (Str×V):=[("numbers",.ref rn),("versions",.ref rv),("step",nv s),("work",.ref rk)]
inductive WI(B:MH)(rn rv s N:Nat)(rest:aq V)(lo:Lo)(H:MH):Prop
 |mk {rk:Nat}{w q:aq Int} (er:rest=q.map V.int) (F:Fs (vF rn rv s rk) lo) (hx:Hx B H) (hw:LI H rk w) (wl:w.length+q.length<=N):WI B rn rv s N rest lo H
structure Vers(H:MH)(r:Nat)(ps:aq (Nat×aq Int)):Prop where
 h:H[r]? =am (.list (ps.map rv))
 v:∀ i p,ps[i]? =am p->LI H p.1 p.2/\p.2.length<=24+8*i
inductive VO(B:MH)(rn r:Nat)(x:Int)(lo:Lo)(H:MH):Prop
 |mk {k:Nat}{ps:aq (Nat×aq Int)} (ek:x=k) (el:ps.length=k+1) (F:Fs [("numbers",.ref rn),("versions",.ref r)] lo) (hx:Hx B H) (D:Vers H r ps):VO B rn r x lo H
theorem wN(h:LI H rn nums)(G:nums.length=24)(k:∀ {H' r}{ps:aq (Nat×aq Int)},Hx H H'->Vers H' r ps->ps.length=4->Q (.ref r) H'):gK X [.ref rn] H Q:=by
 refine⟨rfl,?_⟩
 have F:Fs [("numbers",.ref rn)] (loB ["numbers"] [.ref rn] lo0):=Fs.cons (l:=[]) nofun "numbers" (.ref rn)
 show gD X (loB ["numbers"] [.ref rn] lo0) H (kK Q)
 revert F
 generalize loB ["numbers"] [.ref rn] lo0=lo
 refine λF=>(aK (cE (rW (cZ V.int (λz=>(bif !decide (z%8=7) then [z/8%3] else []).map V.int) (λ_=>qm) nums (F _ (.ref rn) ⋯) h trivial ?_ (λz hz=>⟨λ{lo1 H1 acc P} _ x ha L kk=>?_⟩) λ{H1} t h1=>?_))))
 ·rw[fU (λz=>bif !decide (z%8=7) then [z/8%3] else []),bg]
  have:=lU (out:=λz:Int=>(bif !decide (z%8=7) then [z/8%3] else []).map V.int) (λz=>by cases !decide (z%8=7)<;>simp) nums
  rw[fU (λz=>bif !decide (z%8=7) then [z/8%3] else []),bg]at this
  exact Y253 G this
 ·have hz:upd lo1 "x" (.int z) "x" =am (.int z):=bT
  show(bC (tE (aA (aX not) (aA gQ (eN "x") (eK (.int 8))) (eK (.int 7)))) (tK be)) (upd lo1 "x" (.int z)) H1 _
  revert hz
  generalize upd lo1 "x" (.int z)=O
  refine λhz=>(mC (pE (Evv.bin (Evv.bin (.n hz) .k (m4 (by decide))) .k (by kernel_rfl:aX not (.int (z%8)) (.int 7) H1=am (.bool (!decide (z%8=7)),H1))) ?_))
  revert kk L
  generalize (!decide (z%8=7))=b
  intro L kk
  cases b with
  |false=>exact b8 (b8 (put0 x ha rfl trivial kk))
  |true=>
   exact b7 (tk_i (b7 (Evv.bin (Evv.bin (.n hz) .k (aAq (by decide))) .k (m4 (by decide)) _ (vA (aI H) x ha L rfl trivial kk))))
 rw[fU (λz=>bif !decide (z%8=7) then [z/8%3] else [])]at h1
 have A:(nums.flatMap λz=>bif !decide (z%8=7) then [z/8%3] else []).length<=24:=by
  have:=lU (out:=λz:Int=>(bif !decide (z%8=7) then [z/8%3] else []).map V.int) (λz=>by cases !decide (z%8=7)<;>simp) nums
  rw[fU (λz=>bif !decide (z%8=7) then [z/8%3] else []),bg]at this
  exact Y252 G this
 revert h1 A
 generalize (nums.flatMap λz=>bif !decide (z%8=7) then [z/8%3] else [])=v0
 refine λh1 A=>(mF (aQ (aK ?_)))
 have F1:=F.cons "versions" (.ref H1.length)
 have E:Hx H1 (H1++[MO.list [.ref H.length]]):=.app _ _
 have hv:=aT H1 (MO.list [.ref H.length])
 have f1:=aI H1
 revert F1 E hv f1
 generalize upd lo "versions" (.ref H1.length)=lo1
 generalize H1.length=r
 generalize H1++[MO.list [.ref H.length]]=H2
 refine λF1 E hv f1=>(kJ (aE4 (by decide) .k ⟨_,oS (VO H1 rn r) (λ{da H5} I=>?_) (λx3 I f=>(by
  intro C H B K Q lo rn nums r h G hr x x3 I f
  cases I with
  | @mk k ps ek g F y D=>
  subst ek
  have F1:=F.cons "step" (nv k)
  show vOut (upd lo "step" (nv k)) H K
  revert F1
  generalize upd lo "step" (nv k)=lo1
  intro F1
  rcases oF ps with q |⟨W,p,rfl⟩
  ·cases (q▸g)
  rw[bq,gu]at g
  have S:=D.v k p (by rw[gM (zzM1 0x269a0007da4007da00047 [W.length,k] ⋯ g),show k-W.length=0 by exact zzM1 0x10845203da2904107da4007da00047 [W.length,k] ⋯ g];rfl)
  refine aK (cE ((λQ q=>bJ (aW (F1 _ (.ref r) ⋯) (mE (Lp.mk (lM (bI▸D.h)) q))):Evv (aA aG (eN "versions") (cS (eK (.int 1)))) lo1 H (.ref p.1)) _ (aQ (aK ?_))))
  have F2:=F1.cons "work" (.ref p.1)
  revert F2
  generalize upd lo1 "work" (.ref p.1)=O
  intro F2
  have Z:Hx H (H++[MO.list (pk (nums.map V.int) (am (k:Int)) ba (am 3))]):=.app _ _
  have k3:=Y262 x3
  refine kJ (iN (aW (F2 _ (.ref rn) ⋯) (aW (F2 _ (nv k) ⋯) (cL (cL (Lf.mk rfl (Lf.mk rfl (Lf.mk rfl (lC (y.li h) (by rw[bg];exact zzM1 0x25ec3283d07da00018f68047 [nums.length] ⋯ G) (by decide) (Lf.mk rfl ⟨⟨_,aL (aT _ _)⟩,⟨_,gC (WI (H++[MO.list (pk (nums.map V.int) (am (k:Int)) ba (am 3))]) rn r k (p.2.length+8)) (λI=>?_) (λ{da H5} I=>?_) (λI f=>(by
   intro H B K Q lo rn rv s N U v a I f
   cases I with
   | @mk T w q er F y hw d=>
   cases q with
   |nil=>cases er
   |cons z q=>
   cases er
   rw[ea]at d
   have F1:=F.cons "x" (.int z)
   show vIn (upd lo "x" (.int z)) H K
   revert F1
   generalize upd lo "x" (.int z)=lo1
   intro F1
   have p0:=Int.emod_nonneg (z/8) (show(w.length:Int)+1≠0 by exact (zzM0 0x6803d07da281000c4 [w.length] ⋯))
   have p1:=Int.emod_lt_of_pos (z/8) (show(0:Int)<(w.length:Int)+1 by exact Y272)
   have ep:Evv (aA gQ (aA nQ (eN "x") (eK (.int 8))) (aA aH (aJ b5 (esC (eN "work") esN)) (eK (.int 1)))) lo1 H (.int (z/8%((w.length:Int)+1))):=by
    have l:=xH (F1 "work" (.ref T) ⋯) hw (by rw[bg];exact zzM2 0x150e1d60f41f69000a01f6a0290001dfa3d07da00007 [N,w.length,q.length] ⋯ U d)
    rw[bg]at l
    exact .bin (.bin (.n (F1 _ _ ⋯)) .k (aAq (by decide))) (.bin l .k jB) (m4 Y272)
   revert ep p0 p1
   generalize z/8%((w.length:Int)+1)=p
   refine λp0 p1 ep=>(aK (cE (ep _ (aQ (aK ?_)))))
   have F2:=F1.cons "place" (.int p)
   revert F2
   generalize upd lo1 "place" (.int p)=O
   refine λF2=>(cE ((by
    intro H lo z R hz k
    refine aAn (pick2 hz λb=>?_)
    cases b with
    |false=>exact pY (k (pl:=[]) (jw _))
    |true=>exact rW (Evv.bin (Evv.bin (Evv.bin (.n hz) .k (aAq (by decide))) .k jB) .k (m4 (by decide)) _ (mF (k (pl:=[(z/8+1)%3]) (Nat.le_refl _)))):∀{H:MH}{lo:Lo}{z:Int}{R:EK}(hz:lo "x" =am (.int z))(k:∀ {pl:aq Int},pl.length<=1->R (.ref H.length) (H++[.list (pl.map V.int)])),vPut lo H R) (F2 _ (.int z) ⋯) (λ{pl} M=>aQ (aK ?_))))
   have F3:=F2.cons "put" (.ref H.length)
   have t:Hx H (H++[MO.list (pl.map V.int)]):=.app _ _
   have S:=aT H (MO.list (pl.map V.int))
   revert F3 t S
   generalize upd O "put" (.ref H.length)=db
   generalize H++[MO.list (pl.map V.int)]=H1
   generalize H.length=rp
   refine λF3 t S=>(cE ((by
    intro H lo z R hz k
    refine aAn (pick2 hz λb=>?_)
    cases b with
    |false=>exact cL (lo:=lo) (k (c4 _))
    |true=>exact cL (lo:=lo) (k (by decide)):∀{H:MH}{lo:Lo}{z:Int}{R:EK}(hz:lo "x" =am (.int z))(k:∀ {o:Int},0<=o->R (.int o) H),vCut lo H R) (F3 _ (.int z) ⋯) (λ{o} o0=>aQ (aK ?_))))
   have F4:=F3.cons "out" (.int o)
   revert F4
   generalize upd db "out" (.int o)=cx
   refine λF4=>(cE (bJ (bJ (iN (aW (F4 _ (.ref T) ⋯) (cL (aW (F4 _ (.int p) ⋯) (cL (Lf.mk rfl (Lf.mk rfl (Lf.mk rfl (lC (t.li hw) (by rw[bg];exact Y269 U d) (by decide) ?_))))))))))))
   rw[kN,(by
    intro α l j h1 h2
    rw[hO]
    show((l.drop 0).take (pe l.length j-0))=_
    rw[oW h1 h2];rfl:∀{α:Type}{l:aq α}{j:Int}(h1:0<=j)(h2:j<=l.length),pk l ba (am j) ba=l.take j.toNat) p0 (Y271 p1)]
   have E:Hx H1 (H1++[MO.list ((w.take p.toNat).map V.int)]):=.app _ _
   refine aW (F4 _ (.ref rp) ⋯) (jK (aT _ _) (E _ _ S) (by rw[bg,bg,sM];exact Y270 U d M) (rwR bI ?_))
   have x3:Hx H1 (H1++[MO.list ((w.take p.toNat).map V.int)]++[MO.list ((w.take p.toNat++pl).map V.int)]):=E.trans (.app _ _)
   have h3:=aT (H1++[MO.list ((w.take p.toNat).map V.int)]) (MO.list ((w.take p.toNat++pl).map V.int))
   revert x3 h3
   generalize H1++[MO.list ((w.take p.toNat).map V.int)]++[MO.list ((w.take p.toNat++pl).map V.int)]=H3
   generalize (H1++[MO.list ((w.take p.toNat).map V.int)]).length=r3
   intro x3 h3
   have po:Evv (aA aH (eN "place") (eN "out")) cx H3 (.int (p+o)):=.bin (.n (F4 _ _ ⋯)) (.n (F4 _ _ ⋯)) jB
   refine iN (aW (F4 _ (.ref T) ⋯) (po _ (cL (cL (Lf.mk rfl (Lf.mk rfl (Lf.mk rfl (lC (x3.li (t.li hw)) (by rw[bg];exact Y269 U d) (by decide) ?_))))))))
   have dl:=aH0 (l:=w) (Y268 p0 o0)
   rw[kN]
   revert dl
   generalize pk w (am (p+o)) ba ba=dr
   intro dl
   have x4:Hx H3 (H3++[MO.list (dr.map V.int)]):=.app _ _
   have tl:(w.take p.toNat).length<=p.toNat:=by exact rwL sM Y267
   exact jK (x4 _ _ h3) (aT _ _) (by rw[bg,bg,bq];exact Y266 U d p1 M dl tl) (aQ (rwR bI (f.nx (.mk rfl ((F4.cons "work" (.ref (H3++[MO.list (dr.map V.int)]).length)).re _ ⋯) (y.trans (t.trans (x3.trans (x4.trans (.app _ _))))) (aL (aT _ _)) (rwL bq (rwL bq (Y265 d p1 M o0 dl tl))))))):∀{H:MH}{B:MH}{K:SK}{Q:SK}{lo:Lo}{rn:Nat}{rv:Nat}{s:Nat}{N:Nat}(U:N<1000){v:V}{a:aq V}(I:WI B rn rv s N (v::a) lo H)(f:GoK (WI B rn rv s N a) Q K),aN "x" v lo H λlo1 H1=>vIn lo1 H1 K) (zzM2 0xbfd7e8f41f48f68000003f41f690001e923e63d028007 [p.snd.length,k] ⋯ S.2 k3) I f) _ 0 rfl (.mk rfl (F2.re _ ⋯) (Hx.refl _) (Z.li S.1) (Y259 ((by
   intro α l h s s3
   delta pk
   refine rwL h (Nat.le_trans (List.length_filterMap_le ..) ?_)
   match s,s3 with
   |0,_=>decide+kernel
   |1,_=>decide+kernel
   |2,_=>decide+kernel:∀{α:Type}{l:aq α}(h:l.length=24){s:Nat}(s3:s<3),(pk l (am (s:Int)) ba (am 3)).length<=8) G k3)))⟩⟩))))))))))
  ·cases I with
   |mk er F y hw d=>
   rw[<-kN]
   exact aL (y _ _ (aT _ _))
  cases I with
  | @mk T w q er Y cy cz d=>
  cases ox.mp er.symm
  have J:=Z.trans cy
  have v5:=J _ _ D.h
  refine aQ (aK (uD (Y _ (.ref r) ⋯) v5 (aW (Y _ (.ref T) ⋯) (uE v5 (by rw[bg,bq];exact(zzM2 0xa5ec3283d07d07da000000fd07da4000707da4007da00047 [W.length,k] ⋯ g k3:W.length+1<_)) (aQ ?_)))))
  have ne:∀ {i:Nat}{l:aq Int},LI H5 i l->i≠r:=λ{i l} z e=>by
   refine xEA (nq.mp ((Option.some.inj ((aL v5).symm.trans (rwR e z)))▸nq.mpr ⟨p,jr _ c3,rfl⟩)) λ_ _ q=>?_
   cases q
  have u:∀ {i:Nat}{l:aq Int}{m:MO},LI H5 i l->LI (H5.set r m) i l:=λ{i l m} z=>by
   show((H5.set r m)[i]?.bind MO.vs)=_
   exact rwL (iy (ne z).symm) z
  refine f.nx (.mk (ps:=W++[p]++[(T,w)]) Y257 (by exact rwL bq (rwL bq (zzM1 0x5241f41f6900007d07da0000107da4007da00047 [W.length,k] ⋯ g:W.length+1+1=_))) (Y.re _ ⋯) ((y.trans J).set hr) ⟨by exact rwL bI (rwL bI (rwR bI (aP v5 _))),λi p' c=>?_⟩)
  rcases qy i (W++[p]).length with z |z
  ·rw[jx z]at c
   exact⟨u (J.li (D.v i p' c).1),(D.v i p' c).2⟩
  ·rw[gM z]at c
   rw[bq,gu]at z c
   have i0:i-(W.length+1)=0:=by
    exact Y255 (rwR gu ((List.getElem?_eq_some_iff.mp c).1))
   rw[i0]at c
   exact cxSP c ⟨u cz,(Y254 g (rwR ky d) z S.2:w.length<=_)⟩:∀{C:Cx}{H:MH}{B:MH}{K:SK}{Q:SK}{lo:Lo}{rn:Nat}{nums:aq Int}{r:Nat}(h:LI B rn nums)(G:nums.length=24)(hr:B[r]? =ba){x:Int}(x3:x<3)(I:VO B rn r x lo H)(f:GoK (VO B rn r (x+1)) Q K),aN "step" (.int x) lo H λlo1 H1=>vOut (C:=C) lo1 H1 K) (t.li h) G f1 x3 I f) 3 0 rfl (.mk (ps:=[(H.length,v0)]) rfl rfl (F1.re _ ⋯) E ⟨hv,λi p c=>?_⟩)⟩))
 ·cases I with
  | @mk kk ps ek g Y y D=>
  exact aQ (aK (jI (aW (Y _ (.ref r) ⋯) (k (t.trans y) D (zzM2 0x514a13da4107da00a411e8a040fd0c7 [kk,ps.length] ⋯ ek g)))))
 ·have i0:i=0:=by
   exact Y250 (rwR gu ((List.getElem?_eq_some_iff.mp c).1))
  subst i0
  exact cxSP c ⟨aL (E _ _ h1),A⟩
structure CG{β:Type}(ob:β->aq V)(X:XX C)(H H':MH)(s:Nat)(oc:bc Nat)(W':aq Op)(c ai:Nat)(ps:aq (Nat×β)):Prop where
 kp:∀ (r:Nat) (m:MO),r≠s->oc≠am r->H[r]? =am m->H'[r]? =am m
 ks:oc≠ba->∀ m,H[s]? =am m->H'[s]? =am m
 st:Mst X H' s W' (am c)
 oc:oc=am c\/(oc=ba/\H[c]? =ba)
 h:H'[ai]? =am (.list (ps.map rv))
 hd:∀ p∈ps,H'[p.1]? =am (.list (ob p.2))/\H[p.1]? =ba/\p.1≠ai/\p.1≠c
 nd:(ps.map Prod.fst).Nodup
 ac:ai≠c
structure CGg{β:Type}(ob:β->aq V)(X:XX C)(H H':MH)(n:Int)(s:Nat)(oc:bc Nat)(W':aq Op)(c ai gi it cd:Nat)(gs:aq (aq Op))(ps:aq (Nat×β)):Prop where
 cg:CG ob X H H' s oc W' c ai ps
 G:GnT n H' gi it cd gs
 ic:it≠cd
 ig:it≠gi
 gc:gi≠cd
 is_:it≠s
 io:it≠c
 go:gi≠c
 gs_:gi≠s
 ag:ai≠gi
 ai_:ai≠it
 acd:ai≠cd
 hn:H[ai]? =ba
 hg:H[gi]? =ba
 hi:H[it]? =ba
 hit:∃ m,H'[it]? =am m
 dg:∀ p∈ps,p.1≠gi/\p.1≠it
theorem Mst.ke{X:XX C}(M:Mst X H s W (am c))(k:∀ (r:Nat) (m:MO),r=s\/r=c->H[r]? =am m->H'[r]? =am m):Mst X H' s W (am c):=by
 cases M with
 |kept h b a=>exact .kept (k _ _ (.inl rfl) h) b (k _ _ (.inr rfl) a)
theorem CG.ke{ob:β->aq V}{X:XX C}{oc:bc Nat}{ps:aq (Nat×β)}{b:MH}(S:CGg ob X H H' n s oc W' c ai gi it cd gs ps)(k:Ke H' b gi it):CG ob X H b s oc W' c ai ps:=by
 have D:=S.cg
 have d:∀ {r:Nat}{m:MO},H[r]? =am m->r≠gi/\r≠it:=λ{r m} e=>⟨λq=>aE (S.hg.symm.trans (q▸e)),λq=>aE (S.hi.symm.trans (q▸e))⟩
 refine⟨λr m g f e=>k _ _ (d e).1 (d e).2 (D.kp _ _ g f e),λq m e=>k _ _ S.gs_.symm S.is_.symm (D.ks q m e),D.st.ke λr m q e=>?_,D.oc,k _ _ S.ag S.ai_ D.h,λp a=>⟨k _ _ (S.dg p a).1 (S.dg p a).2 (D.hd p a).1,(D.hd p a).2⟩,D.nd,D.ac⟩
 rcases q with rfl |rfl
 ·exact k _ _ S.gs_.symm S.is_.symm e
 ·exact k _ _ S.go.symm S.io.symm e
theorem CGg.hx{ob:β->aq V}{X:XX C}{ps:aq (Nat×β)}{a:MH}(S:CGg ob X H H' n s oc W' c ai gi it cd gs ps)(x:Hx H' a):CGg ob X H a n s oc W' c ai gi it cd gs ps:=⟨⟨λr m f d e=>x _ _ (S.cg.kp _ _ f d e),λq m e=>x _ _ (S.cg.ks q m e),S.cg.st.hx x,S.cg.oc,x _ _ S.cg.h,λp b=>⟨x _ _ (S.cg.hd p b).1,(S.cg.hd p b).2⟩,S.cg.nd,S.cg.ac⟩,S.G.to λr m g e=>x _ _ e,S.ic,S.ig,S.gc,S.is_,S.io,S.go,S.gs_,S.ag,S.ai_,S.acd,S.hn,S.hg,S.hi,S.hit.imp λg e=>x _ _ e,S.dg⟩
theorem CGg.put2{ob:β->aq V}{X:XX C}{ps:aq (Nat×β)}{b:β}(S:CGg ob X H H' n s oc W' c ai gi it cd r ps)(T:CGg ob X H l n s oc W' c ai gi it cd gs ps)(h2:l[i]? =am (.list (ob b)))(f:H'[i]? =ba):CGg ob X H (l.set ai (.list (ps.map rv++[.ref i]))) n s oc W' c ai gi it cd gs (ps++[(i,b)]):=by
 have D:=T.cg
 have u:ai≠s:=λq=>xE D.st.o λff z=>bv ((q▸D.h).symm.trans z) nofun
 have old:∀ {y:Nat}{m:MO},H'[y]? =am m->i≠y:=λ{y m} e q=>aE (f.symm.trans (q▸e))
 have F:∃ m,H'[gi]? =am m:=by
  cases S.G with
  |loop g=>exact⟨_,g⟩
  |last g=>exact⟨_,g⟩
 have w:=old S.cg.h
 have v:i≠c:=by
  cases S.cg.st with
  |kept h I B=>exact old B
 refine⟨⟨λr m k j e=>aM (D.kp _ _ k j e) λq=>aE (S.hn.symm.trans (q▸e)),λq m e=>aM (D.ks q m e) u,D.st.ke λr m q e=>aM e ?_,D.oc,?_,λp a=>?_,?_,D.ac⟩,T.G.to λr m q e=>aM e ?_,S.ic,S.ig,S.gc,S.is_,S.io,S.go,S.gs_,S.ag,S.ai_,S.acd,S.hn,S.hg,S.hi,T.hit.imp λJ e=>aM e S.ai_,λp a=>?_⟩
 ·rcases q with rfl |rfl
  ·exact u
  ·exact D.ac
 ·exact rwL bI (aP D.h _)
 ·rcases e7.mp a with a |a
  ·have:=D.hd p a
   exact⟨aM this.1 this.2.2.1.symm,this.2⟩
  ·refine rwL (dv.mp a) ⟨aM h2 w.symm,?_,w,v⟩
   cases z:H[i]? with
   |none=>rfl
   |some m=>
    by_cases k:i=s
    ·exact xE S.cg.st.o λff e=>bv k (old e)
    ·by_cases j:oc=am i
     ·rcases S.cg.oc with t |t
      ·exact bv (Option.some.inj (j.symm.trans t)) v
      ·cases (t.1▸j)
     ·exact aE (f.symm.trans (S.cg.kp _ _ k j z))
 ·rw[bI,List.nodup_append]
  refine⟨D.nd,List.pairwise_singleton _ _,λa E b C e=>(xEA (nq.mp E) λd A x=>?_)⟩
  rw[dv.mp C,<-x]at e
  exact old (S.cg.hd d A).1 e.symm
 ·rcases q with rfl |rfl |rfl
  ·exact S.ag
  ·exact S.ai_
  ·exact S.acd
 ·rcases e7.mp a with a |a
  ·exact S.dg p a
  ·exact rwL (dv.mp a) ⟨xE F λm e=>old e,xE S.hit λm e=>old e⟩
theorem CGg.put{ob:β->aq V}{X:XX C}{ps:aq (Nat×β)}{a:Nat}{b:β}(S:CGg ob X H H' n s oc W' c ai gi it cd gs ps)(x:Hx H' d)(h2:d[a]? =am (.list (ob b)))(f:H'[a]? =ba):CGg ob X H (d.set ai (.list (ps.map rv++[.ref a]))) n s oc W' c ai gi it cd gs (ps++[(a,b)]):=S.put2 (S.hx x) h2 f
theorem aAu{ob:β->aq V}{X:XX C}{ps:aq (Nat×β)}{I:Lo->Prop}{b:aq (aq Op)}(hs:∀ g,g∈b->∀ {e:Lo}{H1:MH}{r:Nat}{P:LK},I e->(∀ (r:Nat) (m:MO),r≠s->oc≠am r->H[r]? =am m->H1[r]? =am m)->H1[r]? =am (.list (g.map Op.v))->(∀ {a d j},I a->Hx H1 d->d[j]? =am (.list (ob (f g)))->H1[j]? =ba->Lf (d[ai]?.bind MO.own) λvs=>vs.length<1000000/\P a (d.set ai (.list (vs++[.ref j]))))->d6 (aN x) (tK be) (bA E ai) (.ref r) e H1 P)(S:CGg ob X H H' n s oc W' c ai gi it cd gs ps)(z:H'[r]? =am (.list (g.map Op.v)))(i:I lo)(p:done++g::gs=b)(al:b.length<10000)(t:ps.map Prod.snd=done.map f)(k:∀ {a o ps'},I a->CGg ob X H o n s oc W' c ai gi it cd gs ps'->ps'.map Prod.snd=(done++[g]).map f->P a o):d6 (aN x) (tK be) (bA E ai) (.ref r) lo H' P:=by
 refine hs g (p▸jr _ c3) i S.cg.kp z λ{a d j} y u w f2=>Lf.mk (d9 (u _ _ S.cg.h)) ⟨?_,k (ps':=ps++[(j,f g)]) y (S.put u w f2) (by rw[bI,bI,t];rfl)⟩
 rw[bg]
 have l:=b3 List.length t
 have q:=b3 List.length p
 rw[bg,bg]at l
 rw[bq,ea]at q
 exact Y5 al l q
theorem cg_run{ob:β->aq V}{X:XX C}{I:Lo->Prop}{b:aq (aq Op)}(al:b.length<10000)(hs:∀ g,g∈b->∀ {h:Lo}{H1:MH}{r:Nat}{P:LK},I h->(∀ (r:Nat) (m:MO),r≠s->oc≠am r->H[r]? =am m->H1[r]? =am m)->H1[r]? =am (.list (g.map Op.v))->(∀ {a d l},I a->Hx H1 d->d[l]? =am (.list (ob (f g)))->H1[l]? =ba->Lf (d[ai]?.bind MO.own) λvs=>vs.length<1000000/\P a (d.set ai (.list (vs++[.ref l]))))->d6 (aN x) (tK be) (bA E ai) (.ref r) h H1 P)(k:∀ {a o ps'},CG ob X H o s oc W' c ai ps'->ps'.map Prod.snd=b.map f->P a o):∀ (gs:aq (aq Op)){done:aq (aq Op)}{ps:aq (Nat×β)}{lo:Lo}{H':MH},CGg ob X H H' n s oc W' c ai gi it cd gs ps->I lo->done++gs=b->ps.map Prod.snd=done.map f->lE (jQ X.gc 6 X.gv) (aN x) (tK be) (bA E ai) (gs.length+1) gi lo H' P:=λgs=>by
 induction gs with
 |nil=>
  intro done ps lo H' S i j t
  refine lS X S.G S.ic S.ig S.gc (λ{d} J p=>k (CG.ke S p) (by rw[t,<-j,gz])) λ{d r g q} e=>nomatch e
 |cons D gs B=>
  intro done ps lo H' S i j t
  refine lS X S.G S.ic S.ig S.gc (λ{d} e J=>nomatch e) λ{d r g q} e p y F u z=>?_
  cases e
  exact aAu hs ⟨(CG.ke S p),u,S.ic,S.ig,S.gc,S.is_,S.io,S.go,S.gs_,S.ag,S.ai_,S.acd,S.hn,S.hg,S.hi,z,S.dg⟩ y i j al t λ{a o ps'} C w A=>B w C (by rw[dt];exact j) A
theorem aGk{Q:EK}(ob:β->aq V)(f:aq Op->β)(I:Lo->Prop)(M:Mst X H s W oc)(ll:W.length<=200)(K:(groups n W).length<10000)(O:I (hide p lo))(hs:∀ g,g∈groups n W->∀ {t:Lo}{H1:MH}{r:Nat}{P:LK},I t->(∀ (r:Nat) (m:MO),r≠s->oc≠am r->H[r]? =am m->H1[r]? =am m)->H1[r]? =am (.list (g.map Op.v))->(∀ {b i A},I b->Hx H1 i->i[A]? =am (.list (ob (f g)))->H1[A]? =ba->Lf (i[(H++[MO.gen (.fresh (loB ["self","n"] [.ref s,.int n] lo0))]).length]?.bind MO.own) λvs=>vs.length<1000000/\P b (i.set (H++[MO.gen (.fresh (loB ["self","n"] [.ref s,.int n] lo0))]).length (.list (vs++[.ref A]))))->d6 (aN x) (tK be) (bA E (H++[MO.gen (.fresh (loB ["self","n"] [.ref s,.int n] lo0))]).length) (.ref r) t H1 P)(k:∀ {H' c ps},CG ob X H H' s oc (qH n W) c (H++[MO.gen (.fresh (loB ["self","n"] [.ref s,.int n] lo0))]).length ps->ps.map Prod.snd=(groups n W).map f->Q (.ref (H++[MO.gen (.fresh (loB ["self","n"] [.ref s,.int n] lo0))]).length) H'):∃ T,lE (jQ X.gc 6 X.gv) (aN x) (tK be) (bA E (H++[MO.gen (.fresh (loB ["self","n"] [.ref s,.int n] lo0))]).length) T H.length (hide p lo) ((H++[MO.gen (.fresh (loB ["self","n"] [.ref s,.int n] lo0))])++[.list []]) λ_ i=>Q (.ref (H++[MO.gen (.fresh (loB ["self","n"] [.ref s,.int n] lo0))]).length) i:=by
 have F:((H++[MO.gen (.fresh (loB ["self","n"] [.ref s,.int n] lo0))])++[MO.list []])[H.length]? =am (.gen (.fresh (loB ["self","n"] [.ref s,.int n] lo0))):=Hx.app _ _ _ _ (aT H (MO.gen (.fresh (loB ["self","n"] [.ref s,.int n] lo0))))
 have j:=aT (H++[MO.gen (.fresh (loB ["self","n"] [.ref s,.int n] lo0))]) (MO.list [])
 have d:Hx H ((H++[MO.gen (.fresh (loB ["self","n"] [.ref s,.int n] lo0))])++[MO.list []]):=(Hx.app _ _).trans (.app _ _)
 have u:=(Hx.app H [MO.gen (.fresh (loB ["self","n"] [.ref s,.int n] lo0))]).fresh
 have a:=aI H
 have y:(H++[MO.gen (.fresh (loB ["self","n"] [.ref s,.int n] lo0))]).length≠H.length:=by exact rwL bq (oy _)
 revert F j d u a y hs k
 generalize (H++[MO.gen (.fresh (loB ["self","n"] [.ref s,.int n] lo0))])++[MO.list []]=H1
 generalize (H++[MO.gen (.fresh (loB ["self","n"] [.ref s,.int n] lo0))]).length=w
 generalize H.length=gi
 intro hs k F j d u a y
 have N:oc≠am w:=λq=>by
  cases M with
  |fresh=>cases q
  |kept h hf R=>refine cyS q λzq=>?_;subst zq;exact aE (u.symm.trans R)
 have D:∀ {H':MH}{c it l:Nat},G1 X H1 H' gi s oc (qH n W) c it l->CG ob X H H' s oc (qH n W) c w ([]:aq (Nat×β)):=λ{H' c it l} G=>by
  have ac:w≠c:=by
   rcases G.oc with q |q
   ·exact λz=>N (z▸q)
   ·exact λz=>aE (q.2.symm.trans (z▸j))
  exact⟨λr m q1 U e=>G.kp _ _ (λq=>aE (a.symm.trans (q▸e))) q1 U (d _ _ e),λq m e=>G.ks q m (d _ _ e),G.st,(G.oc.imp id λq=>⟨q.1,d.no q.2⟩),G.kp _ _ y (λq=>xE M.o λff z=>aE (u.symm.trans (q▸z))) N j,λp J=>bv J dz,List.nodup_nil,ac⟩
 refine⟨(groups n W).length+1,rP X (M.hx d) ll F (λ{H' c it l} e G=>k (D G) (by rw[e];rfl)) λ{H' r g L c it l} e G hr fr Y S _=>?_⟩
 have B:w≠l:=by
  rcases G.cdn with q |q
  ·exact rwL q (D G).ac
  ·exact λz=>aE (q.symm.trans (z▸j))
 rw[e]at hs k K
 have eN:(groups n W).length=L.length+1:=by rw[e];rfl
 exact rwL eN (aAu (done:=[]) hs ⟨(D G),Y,G.ic,G.ig,G.gc,G.is_,G.io,G.go,(λq=>xE M.o λff z=>aE (a.symm.trans (q▸z))),y,λz=>aE (G.itn.symm.trans (z▸j)),B,u,a,d.no G.itn,S,λp J=>bv J dz⟩ hr O rfl K rfl λ{b Z ps'} i' S3 e3=>cg_run K hs (λ{b Z ps'} c e=>k c e) L S3 i' rfl e3)
def oG(g:aq Op):aq V:=g.map Op.v
theorem lg_run{a:aq (aq Op)}(al:a.length<10000)(k:∀ {m ps'},CG oG X H m s oc W' c ai ps'->ps'.map Prod.snd=a->P m):∀ (gs:aq (aq Op)){done:aq (aq Op)}{ps:aq (Nat×aq Op)}{H':MH},CGg oG X H H' n s oc W' c ai gi it cd gs ps->done++gs=a->ps.map Prod.snd=done->gE (jQ X.gc 6 X.gv) ai (gs.length+1) gi H' P:=λgs=>by
 induction gs with
 |nil=>
  intro done ps H' S d f
  exact lS X S.G S.ic S.ig S.gc (λ{b} x i=>k (CG.ke S i) (by rw[f,<-d,gz])) λ{b r g j} e=>nomatch e
 |cons p gs v=>
  intro done ps H' S d f
  refine lS X S.G S.ic S.ig S.gc (λ{b} e x=>nomatch e) λ{b r g j} e i t w q u=>?_
  cases e
  have S2:CGg oG X H b n s oc W' c ai gi it cd gs ps:=⟨CG.ke S i,q,S.ic,S.ig,S.gc,S.is_,S.io,S.go,S.gs_,S.ag,S.ai_,S.acd,S.hn,S.hg,S.hi,u,S.dg⟩
  refine Lf.mk (d9 S2.cg.h) ⟨?_,v (done:=done++[p]) (S.put2 S2 t w) (by rw[dt];exact d) (by rw[bI,f];rfl)⟩
  rw[bg]
  have l:=b3 List.length f
  have o:=b3 List.length d
  rw[bg]at l
  rw[bq,ea]at o
  exact Y5 al l o
theorem aEh(M:Mst X H s W oc)(S:W.length<=200)(J:(groups n W).length<10000)(k:∀ {H' c ai ps},CG oG X H H' s oc (qH n W) c ai ps->ps.map Prod.snd=groups n W->H[ai]? =ba->Q (.ref ai) H'):k7 (jQ X.gc 6 λL=>X.gv L) (λi=>i) [.ref H.length] (H++[MO.gen (.fresh (loB ["self","n"] [.ref s,.int n] lo0))]) Q:=by
 have g:=zS (aT H (.gen (.fresh (loB ["self","n"] [.ref s,.int n] lo0))))
 have e:isG (H++[MO.gen (.fresh (loB ["self","n"] [.ref s,.int n] lo0))]) [.ref H.length]=am H.length:=by
  show((H++[MO.gen (.fresh (loB ["self","n"] [.ref s,.int n] lo0))])[H.length]?.bind MO.gn).map _=_
  rw[g];rfl
 delta k7
 refine rwL e ?_
 clear e g
 have w:((H++[MO.gen (.fresh (loB ["self","n"] [.ref s,.int n] lo0))])++[MO.list []])[H.length]? =am (.gen (.fresh (loB ["self","n"] [.ref s,.int n] lo0))):=Hx.app _ _ _ _ (aT H (MO.gen (.fresh (loB ["self","n"] [.ref s,.int n] lo0))))
 have l:=aT (H++[MO.gen (.fresh (loB ["self","n"] [.ref s,.int n] lo0))]) (MO.list [])
 have b:Hx H ((H++[MO.gen (.fresh (loB ["self","n"] [.ref s,.int n] lo0))])++[MO.list []]):=(Hx.app _ _).trans (.app _ _)
 have f:=(Hx.app H [MO.gen (.fresh (loB ["self","n"] [.ref s,.int n] lo0))]).fresh
 have a:=aI H
 have u:(H++[MO.gen (.fresh (loB ["self","n"] [.ref s,.int n] lo0))]).length≠H.length:=by exact rwL bq (oy _)
 show ∃ N,gE (jQ X.gc 6 X.gv) (H++[MO.gen (.fresh (loB ["self","n"] [.ref s,.int n] lo0))]).length N H.length ((H++[MO.gen (.fresh (loB ["self","n"] [.ref s,.int n] lo0))])++[MO.list []]) λH'=>Q (.ref (H++[MO.gen (.fresh (loB ["self","n"] [.ref s,.int n] lo0))]).length) H'
 revert w l b f a u
 generalize (H++[MO.gen (.fresh (loB ["self","n"] [.ref s,.int n] lo0))])++[MO.list []]=H1
 generalize (H++[MO.gen (.fresh (loB ["self","n"] [.ref s,.int n] lo0))]).length=ai
 generalize H.length=gi
 intro w l b f a u
 have x:ai≠s:=λq=>xE M.o λff z=>aE (f.symm.trans (q▸z))
 have I:oc≠am ai:=λq=>by
  cases M with
  |fresh=>cases q
  |kept h Y O=>refine cyS q λzq=>?_;subst zq;exact aE (f.symm.trans O)
 have D:∀ {H':MH}{c it p:Nat},G1 X H1 H' gi s oc (qH n W) c it p->CG oG X H H' s oc (qH n W) c ai ([]:aq (Nat×aq Op)):=λ{H' c it p} G=>by
  have U:ai≠c:=by
   rcases G.oc with q |q
   ·exact λz=>I (z▸q)
   ·exact λz=>aE (q.2.symm.trans (z▸l))
  exact⟨λr m B A e=>G.kp _ _ (λq=>aE (a.symm.trans (q▸e))) B A (b _ _ e),λq m e=>G.ks q m (b _ _ e),G.st,(G.oc.imp id λq=>⟨q.1,b.no q.2⟩),G.kp _ _ u x I l,λp v=>bv v dz,List.nodup_nil,U⟩
 refine⟨(groups n W).length+1,rP X (M.hx b) S w (λ{H' c it p} e G=>k (D G) (by rw[e];rfl) f) λ{H' r g K c it p} e G T y R P F=>?_⟩
 have d:=D G
 have t:ai≠p:=by
  rcases G.cdn with q |q
  ·exact rwL q d.ac
  ·exact λz=>aE (q.symm.trans (z▸l))
 have j:ai≠it:=λz=>aE (G.itn.symm.trans (z▸l))
 have E:r≠ai:=λz=>aE (y.symm.trans (z▸l))
 rw[e]at k J
 refine rwL e (Lf.mk (d9 d.h) ⟨by decide,lg_run X J (λ{V ps'} c e=>k c e f) K (ps:=[(r,g)]) ⟨⟨λy m B A e=>aM (d.kp _ _ B A e) λq=>aE (f.symm.trans (q▸e)),λq m e=>aM (d.ks q m e) x,d.st.ke λy m q e=>aM e ?_,d.oc,aP d.h _,λp v=>?_,List.pairwise_singleton _ _,d.ac⟩,R.to λy m q e=>aM e ?_,G.ic,G.ig,G.gc,G.is_,G.io,G.go,(λq=>xE M.o λff z=>aE (a.symm.trans (q▸z))),u,j,t,f,a,b.no G.itn,P.imp λZ z=>aM z j,λp v=>?_⟩ rfl rfl⟩)
 ·rcases q with rfl |rfl
  ·exact x
  ·exact d.ac
 ·exact rwL (dv.mp v) ⟨aM T E.symm,b.no y,E,F.1⟩
 ·rcases q with rfl |rfl |rfl
  ·exact u
  ·exact j
  ·exact t
 ·exact rwL (dv.mp v) ⟨(λz=>aE (y.symm.trans (z▸w)):r≠gi),F.2⟩
theorem Cod.len(h:Cod a b f i j l):(l.length:Int)<=a.length-i+(b.length-j):=by
 induction h with
 |nil=>exact (zzM0 0x1a29128a44068a04a28101000f42 [a.length,b.length] ⋯)
 |eq k p m h c=>exact rwL ea (Y287 p c)
 |ch k n g d e h c=>exact rwL ea (Y286 g d e c)
theorem GL.ne(h:GL a b s e f gs):∀ g∈gs,g≠ []:=by
 induction h with
 |nil=>exact λl h=>bv h dz
 |cons k st m c j h d=>exact λu i=>(e6.mp i).elim (λq=>q▸j) (d u)
theorem xX(h:H[r]? =am m):r<H.length:=(List.getElem?_eq_some_iff.mp h).1
structure Cgs(H:MH)(a b:aq Int)(n:Int)(rc rg:Nat)(l:aq Op)(ps:aq (Nat×aq Op)):Prop where
 hc:H[rc]? =am (.list (l.map Op.v))
 hg:H[rg]? =am (.list (ps.map gv))
 g:HG H ps
 gp:Gp n a b l (ps.map Prod.snd)
 c:Cod a b ba 0 0 l
theorem Cgs.hx{ps:aq (Nat×aq Op)}(D:Cgs H a b n rc rg l ps)(x:Hx H d):Cgs d a b n rc rg l ps:=⟨x _ _ D.hc,x _ _ D.hg,D.g.hx x,D.gp,D.c⟩
theorem Cgs.ll{ps:aq (Nat×aq Op)}(D:Cgs H a b n rc rg l ps)(al:a.length<64)(d:b.length<64):l.length<200:=by
 exact zzM3 0x551a8f41f6a00003da2910103da28101028a840870a0f41f690001c283d07da00007 [a.length,b.length,l.length] ⋯ al d D.c.len
theorem Cgs.pl{ps:aq (Nat×aq Op)}(D:Cgs H a b n rc rg l ps)(e:0<=n)(al:a.length<64)(d:b.length<64):ps.length<200:=by
 have:=D.gp.hd3 e D.c
 rw[bg]at this;exact zzM3 0x7546a3d07da80002f69a0002a0fe0070a0f41f690001c283d07da00007 [a.length,b.length,ps.length] ⋯ al d this
theorem Cgs.gl{ps:aq (Nat×aq Op)}(D:Cgs H a b n rc rg l ps)(f:0<=n)(al:a.length<64)(c:b.length<64):∀ p∈ps,p.2.length<1000:=λp d=>by
 have e:=D.gp.cnt
 rw[bg]at e
 exact Y283 e (D.ll al c) (D.pl f al c) (lX l) ((List.sublist_flatten_of_mem (ql d)).length_le)
theorem Cgs.ne{ps:aq (Nat×aq Op)}(D:Cgs H a b n rc rg l ps)(d:0<=n):∀ p∈ps,p.2≠ []:=λp c=>(D.gp.gl d).ne _ (ql c)
def smE(x y:Str):EF:=aJ X.c_SM (esC (eK .none) (esC (eN x) (esC (eN y) esN)))
theorem oc_i(t:lo x=am (.ref ra))(s:lo y=am (.ref rb))(g:LI H ra a)(j:LI H rb b)(al:a.length<64)(p:b.length<64)(k:∀ {H' r l},Hx H H'->H'[r]? =am (.list (l.map Op.v))->H[r]? =ba->Ops a b l->R (.ref r) H'):(cW (aZ X) (smE X x y) esN) lo H R:=show cW (aZ X) (aJ X.c_SM (esC (eK .none) (esC (eN x) (esC (eN y) esN)))) esN lo H _ from bG (aO (cL (aO (aW t (aO (aW s (bF (yN X g j (Y282 al) (Y282 p) λ{d rd u z m f} c S=>Lf.mk rfl ⟨⟨_,S.o⟩,bF (pW X S ⋯ ⋯ (Y282 al) (λr h=>hV h.len al) λ{A r l} n B w q O=>k (λi m e=>n i m (Nat.ne_of_gt (xX e)) (c _ _ e)) q (c.no (aI d)) O)⟩))))))))
theorem lg_i(l:0<=n)(s:lo x=am (.ref ra))(q:lo y=am (.ref rb))(v:lo "n" =am (.int n))(u:LI H ra a)(t:LI H rb b)(al:a.length<64)(d:b.length<64)(O:Ops a b W)(k:∀ {H' r}{ps:aq (Nat×aq Op)},Hx H H'->H'[r]? =am (.list (ps.map gv))->HG H' ps->ps.map Prod.snd=groups n W->H[r]? =ba->(∀ p∈ps,H[p.1]? =ba)->R (.ref r) H'):(aJ (k7 (jQ X.gc 6 X.gv) (λi=>i)) (esC (cW (aS X) (smE X x y) (esC (eN "n") esN)) esN)) lo H R:=by
 have c:=O.cod
 refine bG (aO (show cW (aS X) (aJ X.c_SM (esC (eK .none) (esC (eN x) (esC (eN y) esN)))) (esC (eN "n") esN) lo H _ from (bG (aO (cL (aO (aW s (aO (aW q (bF (yN X u t (Y282 al) (Y282 d) λ{w rd D E m f} g S=>Lf.mk rfl ⟨⟨_,S.o⟩,aO (aW v (bF ⟨rfl,bF (aEh X (.fresh S ⋯ ⋯ (Y282 al) (λr h=>hV h.len al) λl h=>h.uniq O) (Y281 al d c.len) (Y280 al d ((Gp.of l c).hd3 l c)) λ{B c2 A ps} G e f=>k (λi m z=>G.kp i m (md (xX z)) nofun (g _ _ z)) G.h (λp j=>(G.hd p j).1) e (g.no f) λp j=>g.no (G.hd p j).2.1)⟩))⟩)))))))))))
theorem gt_i(q:0<=n)(D:lo x=am (.ref ra))(B:lo y=am (.ref rb))(J:lo "n" =am (.int n))(G:LI H ra a)(F:LI H rb b)(al:a.length<64)(j:b.length<64)(O:Ops a b W)(k:∀ {H' r}{ps:aq (Nat×aq Op)},Hx H H'->H'[r]? =am (.list (ps.map gv))->HG H' ps->ps.map Prod.snd=(groups n W).map (List.map Op.sw)->H[r]? =ba->(∀ p∈ps,H[p.1]? =ba)->R (.ref r) H'):(bU (jQ X.gc 6 X.gv) [".0","group"] (iG (cW (aS X) (smE X x y) (esC (eN "n") esN))) (aN "group") (tK be) (bA (aJ (cC X) (esC (eN "group") esN)))) lo H R:=by
 have c:=O.cod
 have t:=Gp.of q c
 refine bG (aO (cL (aO (aW D (aO (aW B (bF (yN X G F (Y282 al) (Y282 j) λ{v rd N Q m f} s S=>Lf.mk rfl ⟨⟨_,S.o⟩,aO (aW J (bF ⟨rfl,Lf.mk rfl ⟨⟨_,aT _ _⟩,aGk X oG (λg=>g.map Op.sw) (λT=>qm) (.fresh S ⋯ ⋯ (Y282 al) (λr h=>hV h.len al) λl h=>h.uniq O) (Y281 al j c.len) (Y280 al j (t.hd3 q c)) trivial (λg w {I H1 r P} i M E d=>(jH (bG (aO (aW bT (bF (uN X E (Y279 al j c.len (t.hd3 q c) t.cnt (lX W) ((List.sublist_flatten_of_mem w).length_le)) λ{v L} K A f1=>d trivial K A f1))))))) λ{H' c ps} l e=>?_⟩⟩))⟩))))))))
 ·exact k (λi m z=>l.kp i m (md (xX z)) nofun (s _ _ z)) l.h (λp u=>(l.hd p u).1) e (s.no (Hx.app v _).fresh) λp u=>s.no (l.hd p u).2.1
def cgS:SF:=(sIf (tE (aA (aX id) (aA gQ (aA aG (eN "numbers") (eN "step")) (eK (.int 2))) (eK (.int 1)))) (aB (aV "codes" (aJ (cC X) (esC (cW (aZ X) (smE X "new" "old") esN) esN))) (aB (aV "groups" (bU (jQ X.gc 6 X.gv) [".0","group"] (iG (cW (aS X) (smE X "new" "old") (esC (eN "n") esN))) (aN "group") (tK be) (bA (aJ (cC X) (esC (eN "group") esN))))) (sK .next))) (aB (aV "codes" (cW (aZ X) (smE X "old" "new") esN)) (aB (aV "groups" (aJ (k7 (jQ X.gc 6 X.gv) (λi=>i)) (esC (cW (aS X) (smE X "old" "new") (esC (eN "n") esN)) esN))) (sK .next))))
def cgF(ra rb rn:Nat)(n:Int)(k:Nat):aq (Str×V):=[("old",.ref ra),("new",.ref rb),("numbers",.ref rn),("n",.int n),("step",nv k)]
theorem cg_ok{nums:aq Int}(i:0<=n)(F:Fs (cgF ra rb rn n k) lo)(m:LI H ra a)(j:LI H rb b)(al:a.length<64)(g:b.length<64)(E:H[rn]? =am (.list (nums.map V.int)))(t:nums.length=24)(v:k<3)(q:∀ {H' rc rg l ps},Hx H H'->Cgs H' a b n rc rg l ps->H[rc]? =ba->K .next (upd (upd lo "codes" (.ref rc)) "groups" (.ref rg)) H'):cgS X lo H K:=by
 have D:(nums.map V.int)[k]? =am (.int nums[k]):=by rw[gh,getElem?_eq_getElem (zzM2 0xaa807da40003f41f690001d8f68047 [nums.length,k] ⋯ t v)];rfl
 have e:Evv (aA (aX id) (aA gQ (aA aG (eN "numbers") (eN "step")) (eK (.int 2))) (eK (.int 1))) lo H (.bool (decide (nums[k]%2=1))):=.bin (.bin (.bin (.n (F _ (.ref rn) ⋯)) (.n (F _ (nv k) ⋯)) (l5 E D (by rw[bg];exact zzM1 0x24387583d07da00018f68047 [nums.length] ⋯ t))) .k (m4 (by decide))) .k aAk
 refine uY (pE e ?_)
 cases decide (nums[k]%2=1) with
 |true=>
  refine b7 (aK (cE (bG (aO (oc_i X (F _ (.ref rb) ⋯) (F _ (.ref ra) ⋯) j m g al λ{H1 r l} f p I O=>bF (uN X p (by exact zzM3 0x550e1d60f41f6a00003da2810103da29101028a840870a0f41f690001c283d07da00007 [a.length,b.length,l.length] ⋯ al g O.cod.len) λ{G A} z B f2=>aQ (aK ?_)))))))
  have d:=F.up (y:="codes") (w:=.ref A) ⋯
  have c:=f.trans z
  exact cE (gt_i X i (d _ (.ref rb) ⋯) (d _ (.ref ra) ⋯) (d _ (.int n) ⋯) (c.li j) (c.li m) g al O λ{u x ps} h s o e I I=>aQ (q (c.trans h) ⟨h _ _ B,s,o,by exact rwL e ((Gp.of i O.cod).sw),O.cod.sw⟩ (f.no f2)))
 |false=>
  refine b8 (aK (cE (oc_i X (F _ (.ref ra) ⋯) (F _ (.ref rb) ⋯) m j al g λ{H1 r l} f p f1 O=>aQ (aK ?_))))
  have d:=F.up (y:="codes") (w:=.ref r) ⋯
  exact cE (lg_i X i (d _ (.ref ra) ⋯) (d _ (.ref rb) ⋯) (d _ (.int n) ⋯) (f.li m) (f.li j) al g O λ{u x ps} h s o e I I=>aQ (q (f.trans h) ⟨h _ _ p,s,o,by exact rwL e (Gp.of i O.cod),O.cod⟩ f1))
theorem rA{K:ItK C}{b:IF K}{a:BF}(q:b (upd lo x v) H λit H1=>∃ n,lE K tgt t (a ai) n it (upd lo x v) H1 P):d6 (aN x) (tK be) (lZ K b tgt t a ai) v lo H P:=q
theorem rD(j:r2≠ai):∀ {l:aq V}{p:Nat}{lo:Lo}{H:MH}{acc:aq V}{P:LK},vs.drop p=l->H[r2]? =am (.list vs)->H[ai]? =am (.list acc)->acc.length+l.length<1000000->(∀ {a H'},(∀ (i:Nat) (m:MO),i≠ai->H[i]? =am m->H'[i]? =am m)->H'[ai]? =am (.list (acc++l))->P a H')->lE (bB C) (aN "code") (tK be) (bA (eN "code") ai) (l.length+1) (r2,p) lo H P:=λ{l}=>by
 induction l with
 |nil=>
  intro p lo H acc P f h d c k
  refine Lf.mk (p:=ba) (by
   show(lst H (.ref r2)).map _=_
   rw[aL h,qd,gV (nN.mp f)];rfl) ?_
  exact k (λq q q e=>e) (by rw[gz];exact d)
 |cons v l g=>
  intro p lo H acc P f h d c k
  rw[ea]at c
  refine Lf.mk (p:=am (v,(r2,p+1))) (by
   show(lst H (.ref r2)).map _=_
   rw[aL h,qd,show vs[p]? =am v by rw[<-uc,f];rfl];rfl) ?_
  refine jH (aW bT (Lf.mk (d9 d) ⟨zzM1 0x57b0ca0f41f680007b0ca0f41f41f69028000007 [acc.length,l.length] ⋯ c,g (by rw[<-tq,f];rfl) (aM h j.symm) (aP d _) (by exact rwL bq (zzM1 0x15ec3283d07da41f680000007b0ca0f41f41f69028000007 [acc.length,l.length] ⋯ c:acc.length+1+_<_)) λ{a H'} o b=>k (λi m n e=>o i m n (aM e n.symm)) ?_⟩))
  rw[dt]at b
  exact b
theorem aE5(b:B[ai]? =ba)(x:Hx B H)(a:∀ (i:Nat) (m:MO),i≠ai->H[i]? =am m->H'[i]? =am m):Hx B H':=λi m e=>a i m (λq=>by rw[q,b]at e;cases e) (x i m e)
theorem ck1_i{ps:aq (Nat×aq Op)}(A:0<=n)(al:a.length<64)(m:b.length<64)(h1:lo "groups" =am (.ref rg))(h2:lo "codes" =am (.ref rc))(D:Cgs H a b n rc rg l ps)(k:∀ {H'},Hx H H'->K .next lo H'):ck1 X lo H K:=by
 have r:=D.ll al m
 have j:(ps.flatMap λp=>(chg p.2).map Op.v)=(chg l).map Op.v:=by
  rw[<-D.gp.flat,<-(by
   intro ps
   induction ps with
   |nil=>rfl
   |cons p ps I=>rw[lp,I,kn,ue,gW]:∀(ps:aq (Nat×aq Op)),(ps.flatMap λp=>chg p.2)=chg (ps.map Prod.snd).flatten),List.map_flatMap]
 exact sI (cZ gv (λp=>(chg p.2).map Op.v) (λL=>qm) ps h1 (aL D.hg) trivial (by rw[j,bg];exact Y293 r (lX l)) (λp w=>(by
  exact λ{C B} X {e p} s h x=>⟨λ{lo H acc P} i c u E k=>rA (by
     refine bG (aO (aW bT (bF (mQ X (c _ _ h) (Y233 x) λ{y F} d h2 f2=>Lf.mk rfl ⟨⟨_,aL h2⟩,⟨_,rD (λq=>aE ((q▸f2).symm.trans u)) rfl h2 (d _ _ u) E λ{J H'} z f=>k trivial (aE5 s (c.trans d) z) f⟩⟩)))))⟩:∀{C:Cx}{B:MH}(X:XX C){e:Nat}{p:Nat×aq Op}(s:B[e]? =ba)(h:B[p.1]? =am (.list (p.2.map Op.v)))(x:p.2.length<1000),Put (λL=>qm) B e ((chg p.2).map Op.v) (d6 (aN "group") (tK be) (lZ (bB C) (iL (aJ (bS X) (esC (eN "group") esN))) (aN "code") (tK be) (bA (eN "code")) e) (gv p))) X (aI H) (D.g p w) ((D.gl A al m) p w)) λ{H'} c h'=>(bG (aO (aW h2 (bF (mQ X (c _ _ D.hc) (Y289 r) λ{y F} d G L=>no_i (j3 Op.v dO (aL (d _ _ (rwR j h'))) (aL G) (λo L=>rfl) λo L=>⟨by
   obtain⟨t,_,_,_,_⟩:=o
   cases t<;>kernel_rfl,(by decide:1<=9)⟩) (k (c.trans d))))))))
theorem ck2_i(h1:lo "codes" =am (.ref rc))(c:H[rc]? =am (.list (l.map Op.v)))(b:l.length<100000)(k:∀ {H' d},Hx H H'->H'[d]? =am (.list ((bare l).map Op.v))->K .next (upd lo "bare" (.ref d)) H'):ck2 (C:=C) lo H K:=by
 have lm:(l.map Op.v).length<1000000:=by rw[bg];exact Y213 b
 refine cE (bJ (iN (aW h1 (cL (cL (cL (Lf.mk rfl (Lf.mk rfl (Lf.mk rfl (lC (aL c) lm nofun (iN (aW h1 (mE (cL (cL (Lf.mk rfl (Lf.mk rfl (Lf.mk rfl (lC (aL (Hx.app _ _ _ _ c)) lm nofun ?_)))))))))))))))))))
 rw[(by
  intro α l
  rw[hO]
  show((l.drop 0).take (pe l.length 1-0))=_
  rw[show pe l.length 1=min 1 l.length from clipAt_nat l.length 1]
  cases l with
  |nil=>rfl
  |cons x l=>rw[Nat.min_eq_left (show 1<=(x::l).length from ou 1 l.length)];rfl:∀{α:Type}(l:aq α),pk l ba (am 1) ba=l.take 1),(by
   intro α l
   rw[hO]
   show((l.drop (pe l.length (-1))).take (l.length-pe l.length (-1)))=_
   exact rwL (show pe l.length (-1)=l.length-1 from clipAt_neg l.length 1 (Nat.le_refl 1)) (og (by exact rwL mB (Nat.le_refl _))):∀{α:Type}(l:aq α),pk l (am (-1)) ba ba=l.drop (l.length-1)),<-List.map_take,bg,<-List.map_drop]
 have t2:(l.drop (l.length-1)).length<=l.length:=by exact rwL mB (Nat.sub_le _ _)
 refine jK (Hx.app _ _ _ _ (aT _ _)) (aT _ _) (by rw[bg,bg];exact Y295 b (List.length_take_le' ..) t2) ?_
 have x:=((Hx.app H [MO.list ((l.take 1).map Op.v)]).trans (.app _ [.list ((l.drop (l.length-1)).map Op.v)])).trans (.app _ [.list ((l.take 1).map Op.v++(l.drop (l.length-1)).map Op.v)])
 have a:=aT (H++[MO.list ((l.take 1).map Op.v)]++[.list ((l.drop (l.length-1)).map Op.v)]) (.list ((l.take 1).map Op.v++(l.drop (l.length-1)).map Op.v))
 revert x a
 generalize (H++[MO.list ((l.take 1).map Op.v)]++[MO.list ((l.drop (l.length-1)).map Op.v)]).length=r
 generalize H++[MO.list ((l.take 1).map Op.v)]++[MO.list ((l.drop (l.length-1)).map Op.v)]++[MO.list ((l.take 1).map Op.v++(l.drop (l.length-1)).map Op.v)]=e
 intro x a
 rw[<-bI]at a
 refine Lf.mk rfl ⟨⟨_,aL a⟩,aAs (Q:=λv H1=>K .next (upd lo "bare" v) H1) Op.v vB (λq=>qm) (l.take 1++l.drop (l.length-1)) (lO (aL a) _ 0 rfl) trivial (hV (lU (by
  intro o
  delta vB
  cases !o.tag.isEq with
  |false=>exact jw _
  |true=>exact Nat.le_refl _:∀(o:Op),(vB o).length<=1) _) (by exact rwL bq (Y295 b (List.length_take_le' ..) t2))) (λo q=>aDk (aI e)) λ{H'} f h'=>k (x.trans f) ?_⟩
 rw[lG]at h'
 exact h'
theorem ck3_i{ps:aq (Nat×aq Op)}(A:0<=n)(al:a.length<64)(u:b.length<64)(h1:lo "groups" =am (.ref rg))(h2:lo "codes" =am (.ref rc))(G:lo "bare" =am (.ref j))(D:Cgs H a b n rc rg l ps)(m:H[j]? =am (.list ((bare l).map Op.v)))(k:∀ {H'},Hx H H'->K .next lo H'):ck3 X lo H K:=by
 have f:=D.ll al u
 have pl:=D.pl A al u
 have cl:=lX l
 have e:=D.gp.cnt
 rw[bg]at e
 have w:(ps.flatMap λp=>p.2.map Op.v)=((ps.map Prod.snd).flatten).map Op.v:=by
  have:=(by
   intro α ps out
   induction ps with
   |nil=>rfl
   |cons p ps L=>rw[lp,L,kn,ue,List.flatMap_append]:∀{α:Type}(ps:aq (Nat×aq Op))(out:Op->aq α),(ps.flatMap λp=>p.2.flatMap out)=(ps.map Prod.snd).flatten.flatMap out) ps (λo=>[o.v])
  rw[cB]at this
  exact rwR this (b3 (ps.flatMap ·) (funext λp=>(cB Op.v p.2).symm))
 have t:(ps.flatMap λp=>p.2.map Op.v).length=(ps.map Prod.snd).flatten.length:=by rw[w,bg]
 refine sI (bG (aO (cZ gv (λp=>p.2.map Op.v) (λS=>qm) ps h1 (aL D.hg) trivial (by exact rwL t (Y294 f pl cl e)) (λp N=>(by exact λ{C B r p} m h=>⟨λ{lo H acc P} i d I F k=>rA (iL_i (λq=>aW bT q) (aL (d _ _ h)) ⟨_,rD (λq=>aE ((q▸m).symm.trans h)) rfl (d _ _ h) I F λ{M H'} z s=>k trivial (aE5 m d z) s⟩)⟩:∀{C:Cx}{B:MH}{r:Nat}{p:Nat×aq Op}(m:B[r]? =ba)(h:B[p.1]? =am (.list (p.2.map Op.v))),Put (λS=>qm) B r (p.2.map Op.v) (d6 (aN "group") (tK be) (lZ (bB C) (iL (eN "group")) (aN "code") (tK be) (bA (eN "code")) r) (gv p))) (aI H) (D.g p N)) λ{H'} d h'=>(bF (qA (aL h') (by exact rwL t (Y294 f pl cl e)) (bJ (bJ (bJ (cL (bG (aO (bG (aO (aW h2 (bF (mQ X (d _ _ D.hc) (Y289 f) λ{O R} E J S=>bF (qA (aL J) (by rw[bg];exact Y293 f cl) ?_)))))))))))))))))
 rw[t,bg]
 have c:=d.trans E
 refine Lp.mk (mul_e (by decide)) (xG h1 (aL (c _ _ D.hg)) (by rw[bg];exact Y289 pl) (aG0 (xG G (aL (c _ _ m)) (by rw[bg];exact Y292 f pl cl e) ((by exact λ{H Q x y} q=>Lp.mk rfl q:∀{H:MH}{Q:EK}{x y:Int}(q:Q (.int (x-y)) H),Lp (bL (.int x) (.int y) H) Q) ?_))))
 rw[bg,bg]
 exact rwR (Y291 e) (no_i (wA rfl rfl rfl) (k c))
theorem ck4_i{ps:aq (Nat×aq Op)}(d:0<=n)(al:a.length<64)(c:b.length<64)(h1:lo "groups" =am (.ref rg))(h2:lo "old" =am (.ref ra))(f:lo "new" =am (.ref rb))(h:LI H ra a)(e:LI H rb b)(D:Cgs H a b n rc rg l ps)(k:∀ {H'},Hx H H'->K .next lo H'):ck4 X lo H K:=by
 exact sI (bG (aO (aW h2 (aO (aW f (aO (aW h1 (bF (aBj X h e (Y290 al) (Y290 c) D.hg D.g (D.gp.gl d) (D.gl d al c) (Y289 (D.pl d al c)) λ{H' r} x h'=>aW f (no_i (j3 V.int dI h' (x.li e) (λq q=>rfl) λq q=>⟨rfl,jw _⟩) (k x)))))))))))
def dHd(h:Hd):mc:=.tuple [.int h.i1,.int h.i2,.int h.j1,.int h.j2]
theorem aGg(h:Hd):rd H 7 h.v=am (dHd h):=rfl
theorem aGh(h:Hd):(dHd h).canLay0=be/\(dHd h).depth<=9:=⟨rfl,(by decide:1<=9)⟩
theorem ck5_i(P:Pth A B' φ h)(i:B'<64)(d:h.length<64)(f:lo "heads" =am (.ref rh))(g:H[rh]? =am (.list (vs++[.ref r])))(c:H[r]? =am (.list (h.map Hd.v)))(k:∀ {H'},Hx H H'->K .next lo H'):ck5 X lo H K:=by
 have e:∀ {G:MH},Hx H G->Evv (aA aG (eN "heads") (cS (eK (.int 1)))) lo G (.ref r):=λx Q q=>bJ (aW f (mE (Lp.mk (lM (x _ _ g)) q)))
 have a:Hx H (H++[MO.list []]):=.app _ _
 exact sI (bG (aO (e (Hx.refl _) _ (aO (pY (bF (qG X (a _ _ c) (aT _ _) P.hs.1 (Hs.nil (B:=0)) (Y290 i) (by exact rwL ky (zzM1 0x50a0f41f40f6800000283d07da00007 [h.length] ⋯ d)) P.fd0 λ{H' j} b h'=>e (a.trans b) _ (no_i (j3 Hd.v dHd (aL h') (aL (b _ _ (a _ _ c))) (λo l=>aGg o) λo l=>aGh o) (k (a.trans b))))))))))
def oI(u:aq Int):aq V:=u.map V.int
theorem vl_at(h:H[r]? =am (.list (oI u)))(a:u≠ [])(b:lo "path" =am (.ref r)):Evv (aA aG (eN "path") (cS (eK (.int 1)))) lo H (.int (vl u)):=by
 rcases oF u with q |⟨w,z,rfl⟩
 ·exact bv q a
 ·unfold oI at h
  rw[kG (m0 _ _)]
  exact λQ q=>bJ (aW b (mE (Lp.mk (lM (bI▸h)) q)))
theorem pa1_i(z:l.length<1000)(h1:lo "paths" =am (.ref rp))(F:Fs [("codes",.ref rc),("n",.int n)] lo)(m:H[rc]? =am (.list (l.map Op.v)))(h:H[rp]? =am (.list (us.map rv)))(t:HB oI H us)(i:∀ p∈us,p.2≠ []/\p.2.length<1000)(A:us.length<100000)(k:∀ {H' r}{ws:aq (Nat×aq Int)},Hx H H'->H'[r]? =am (.list (ws.map rv))->HB oI H' ws->ws.map Prod.snd=(us.map Prod.snd).map (λu=>u++[(carr n l be (vl u)).getD (-1)])->H[r]? =ba->(∀ p∈ws,H[p.1]? =ba)->K .next (upd lo "paths" (.ref r)) H'):pa1 X lo H K:=by
 refine cE (wE oI rv (λp=>p.2++[(carr n l be (vl p.2)).getD (-1)]) (Fs [("codes",.ref rc),("n",.int n)]) us A (λ{P} q=>iL_i (λq=>aW h1 q) (aL h) q) (lO (aL h) _ 0 rfl) (F.hide ⋯) (λp c {s H1 P} B j a=>?_) λ{H' ws} x h' o e f=>k x h' o (by rw[e,pp];rfl) (aI H) f)
 have d:=B.up (y:="path") (w:=.ref p.1) ⋯
 have b:=j _ _ (t p c)
 refine jH (bJ (aW bT (rW (bG (aO (aW (d _ (.ref rc) ⋯) (aO (aW (d _ (.int n) ⋯) (aO (vl_at b (i p c).1 bT _ (bF (aB4 X (j _ _ m) z (mF ?_)))))))))))))
 have g:Hx H1 (H1++[MO.list [V.int ((carr n l be (vl p.2)).getD (-1))]]):=.app _ _
 exact jK (g _ _ b) (aT _ _) (by delta oI;rw[bg];exact(zzM1 0x57b0ca0f41f41f6800001fa3d07da00007 [p.snd.length] ⋯ (i p c).2:p.2.length+1<_)) (a d (g.trans (.app _ _)) (by exact rwL (show oI (p.2++[(carr n l be (vl p.2)).getD (-1)])=oI p.2++[V.int ((carr n l be (vl p.2)).getD (-1))] from bI) (aT _ _)) (by rw[gV];exact rwL bq Y300))
class inductive Chs(A:Nat->Nat):Nat->aq (Int->bc Int)->aq (aq Hd)->aq (aq Int)->Prop
 |zero:Chs A 0 [] [] ((lns (A 0) 0).map λi=>[i])
 |step {k:Nat}{fs:aq (Int->bc Int)}{hs:aq (aq Hd)}{U:aq (aq Int)}{φ:Int->bc Int}{h:aq Hd} (c:Chs A k fs hs U) (p:Pth (A k) (A (k+1)) φ h) (h3:3*h.length<=A k+A (k+1)+2):Chs A (k+1) (fs++[φ]) (hs++[h]) (ext φ U)
theorem Chs.ne(c:Chs A k fs hs U):(∀ u∈U,u.length=k+1)/\U.length<=A 0/\hs.length=k:=by
 induction c with
 |zero=>
  refine⟨λu b=>?_,by rw[bg,(by
   exact λm=>by
     induction m with
     |zero=>exact λq=>rfl
     |succ m a=>intro i;show(lns m (i+1)).length+1=_;rw[a]:∀ (m:Nat) (i:Int),(lns m i).length=m)];exact Nat.le_refl _,rfl⟩
  obtain⟨i,_,rfl⟩:=nq.mp b
  rfl
 | @step k fs hs U φ h c p f a=>
  refine⟨λu b=>?_,?_,by rw[bq,a.2.2];rfl⟩
  ·refine xEA (List.mem_filterMap.mp b) λw d e=>?_
   obtain⟨y,_,rfl⟩:=dy.mp e
   rw[bq,a.1 w d];rfl
  ·exact Nat.le_trans (List.length_filterMap_le ..) a.2.1
def lF(rn rver rh rp rs:Nat)(n:Int):aq (Str×V):=[("script",.ref rs),("numbers",.ref rn),("n",.int n),("versions",.ref rver),("heads",.ref rh),("paths",.ref rp)]
def bK(vp:aq (Nat×aq Int))(k:Nat):Nat:=((vp[k]?).map λp=>p.2.length).getD 0
structure Und(B:MH)(rn rver rh:Nat)(nums:aq Int)(vp:aq (Nat×aq Int)):Prop where
 n:B[rn]? =am (.list (nums.map V.int))
 nl:nums.length=24
 v:Vers B rver vp
 vl:vp.length=4
 h:B[rh]? =ba
inductive LJ(B:MH)(rn rver rh rs:Nat)(n:Int)(vp:aq (Nat×aq Int))(x:Int)(lo:Lo)(H:MH):Prop
 |mk {k rp:Nat}{hs:aq (Nat×aq Hd)}{us:aq (Nat×aq Int)}{fs:aq (Int->bc Int)} (ex:x=k) (F:Fs (lF rn rver rh rp rs n) lo) (hx:Hx B H) (hh:H[rh]? =am (.list (hs.map rv))) (hd:∀ p∈hs,H[p.1]? =am (.list (p.2.map Hd.v))/\p.1≠rh)
  (hp:H[rp]? =am (.list (us.map rv))) (rpn:rp≠rh) (hu:∀ p∈us,H[p.1]? =am (.list (oI p.2))/\p.1≠rh) (ch:Chs (bK vp) k fs (hs.map Prod.snd) (us.map Prod.snd)):LJ B rn rver rh rs n vp x lo H
def sBd:SF:=(aB (cN ["old","new"] (bH (esC (aA aG (eN "versions") (eN "step")) (esC (aA aG (eN "versions") (aA aH (eN "step") (eK (.int 1)))) esN)))) (aB (cgS X) (aB (ck1 X) (aB (ck2 (C:=C)) (aB (ck3 X) (aB (ck4 X) (aB (bE (c9 (eN "heads") (hdsE (C:=C)))) (aB (ck5 X) (aB (pa1 X) (aB (pa2 (C:=C)) (sK .next)))))))))))
theorem jS{a:Nat}(h:H[r]? =am m)(f:H[a]? =ba):a≠r:=λq=>aE ((q▸f).symm.trans h)
theorem aHm(N:0<=n)(D:Und B rn rver rh nums vp)(x3:x<3)(I:LJ B rn rver rh rs n vp x lo H)(go:GoK (LJ B rn rver rh rs n vp (x+1)) Q K):aN "step" (.int x) lo H λlo1 H1=>sBd X lo1 H1 K:=by
 cases I with
 | @mk k rp hs us fs ex F hx hh hd O dm hu ch=>
 subst ex
 have k3:k<3:=by exact Y262 x3
 have Y:=D.vl
 have F0:=F.cons "step" (nv k)
 show sBd X (upd lo "step" (nv k)) H K
 revert F0
 generalize upd lo "step" (nv k)=lo1
 intro F0
 have e0:vp[k]? =am vp[k]:=getElem?_eq_getElem (zzM2 0xa6907da00004f690470fd07da00007 [k,vp.length] ⋯ k3 Y)
 have e1:vp[k+1]? =am vp[k+1]:=getElem?_eq_getElem (zzM2 0x29a41f41f68000004f690470fd07da00007 [k,vp.length] ⋯ k3 Y)
 have a0:=D.v.v k _ e0
 have a1:=D.v.v (k+1) _ e1
 have A0:bK vp k=vp[k].2.length:=by delta bK;rw[e0];rfl
 have A1:bK vp (k+1)=vp[k+1].2.length:=by delta bK;rw[e1];rfl
 revert e0 e1 a0 a1 A0 A1
 generalize vp[k]=p0
 generalize vp[k+1]=p1
 intro e0 e1 a0 a1 A0 A1
 obtain⟨ra,a⟩:=p0
 obtain⟨rb,b⟩:=p1
 have al:a.length<64:=by have:=a0.2;show a.length<64;change a.length<=_ at this;exact zzM2 0x2bfc283d07da4002823e63d0290070fd07da00007 [k,a.length] ⋯ k3 this
 have t:b.length<64:=by have:=a1.2;show b.length<64;change b.length<=_ at this;exact zzM2 0xaff0a0f41f6900007da0023e63d0290070fd07da00007 [k,b.length] ⋯ k3 this
 have hv:=hx _ _ D.v.h
 have v0:Evv (aA aG (eN "versions") (eN "step")) lo1 H (.ref ra):=.bin (.n (F0 _ (.ref rver) ⋯)) (.n (F0 _ (nv k) ⋯)) (l5 hv (by rw[gh,e0];rfl) (by rw[bg];exact Y311 Y))
 have v1:Evv (aA aG (eN "versions") (aA aH (eN "step") (eK (.int 1)))) lo1 H (.ref rb):=.bin (.n (F0 _ (.ref rver) ⋯)) (.bin (.n (F0 _ (nv k) ⋯)) .k (jB (x:=(k:Nat)) (y:=1))) (l5 (k:=k+1) hv (by rw[gh,e1];rfl) (by rw[bg];exact Y311 Y))
 refine aK (jY (eO (aO (v0 _ (aO (v1 _ (bF ⟨(show 2<100 by decide),Lf.mk (p:=[.ref ra,.ref rb]) rfl ⟨rfl,Lf.mk (p:=upd (upd lo1 "new" (.ref rb)) "old" (.ref ra)) ⋯ (aQ (aK ?_))⟩⟩)))))))
 have F1:=(F0.cons "new" (.ref rb)).cons "old" (.ref ra)
 revert F1
 generalize upd (upd lo1 "new" (.ref rb)) "old" (.ref ra)=df
 intro F1
 refine cg_ok X N (F1.re _ ⋯) (hx.li a0.1) (hx.li a1.1) al t (hx _ _ D.n) D.nl k3 λ{H1 Z T l ps} x1 G fc=>aQ (aK ?_)
 have nc:=jS hh fc
 have F2:=(F1.cons "codes" (.ref Z)).cons "groups" (.ref T)
 revert F2
 generalize upd (upd df "codes" (.ref Z)) "groups" (.ref T)=dp
 intro F2
 refine ck1_i X N al t (F2 _ (.ref T) ⋯) (F2 _ (.ref Z) ⋯) G λ{H2} x2=>aQ (aK (ck2_i (F2 _ (.ref Z) ⋯) (G.hx x2).hc (Y289 (G.ll al t)) λ{H3 da} x3 hb=>aQ (aK ?_)))
 have A:=F2.cons "bare" (.ref da)
 revert A
 generalize upd dp "bare" (.ref da)=dk
 intro A
 have G3:=(G.hx x2).hx x3
 refine ck3_i X N al t (A _ (.ref T) ⋯) (A _ (.ref Z) ⋯) (A _ (.ref da) ⋯) G3 hb λ{H4} x4=>aQ (aK ?_)
 have W:=((x1.trans x2).trans x3).trans x4
 refine ck4_i X N al t (A _ (.ref T) ⋯) (A _ (.ref ra) ⋯) (A _ (.ref rb) ⋯) ((hx.trans W).li a0.1) ((hx.trans W).li a1.1) (G3.hx x4) λ{H5} x5=>aQ (aK ?_)
 have G5:=(G3.hx x4).hx x5
 have cz:=(W.trans x5) _ _ hh
 have dd:=ch.ne.2.2
 rw[bg]at dd
 refine uD (A _ (.ref rh) ⋯) cz ((by
  intro C H lo a b n Z T l ps R N al t h1 D k
  have M:=D.ne N
  refine cZ gv (λp=>[(hd4 p.2).v]) (λ_=>qm) ps h1 (aL D.hg) trivial (by rw[cB (λp:Nat×aq Op=>(hd4 p.2).v),bg];exact zzM1 0x15ec3283d07da00006a3d07da00007 [ps.length] ⋯ (D.pl N al t)) (λp O=>y1 (aI H) λ{lo1 H1 acc Q} U x ha q=>?_) λ{H'} x h'=>k x (by rw[h',cB (λp:Nat×aq Op=>(hd4 p.2).v),pp,pp];rfl) (aI H)
  have g:=x _ _ (D.g p O)
  exact eO (aO (zW (L:=[]) g (M p O) U ((D.gl N al t) p O) _ (aO (g_lst (L:=[]) g (M p O) U _ (aO ((by
   intro H lo r g h M U gl
   cases g with
   |nil=>exact bv rfl M
   |cons o g=>exact .bin (.bin (.n U) .k (l5 h rfl (by rw[bg];exact Y233 gl))) .k rfl:∀{H:MH}{lo:Lo}{r:Nat}{g:aq Op}(h:H[r]? =am (.list (g.map Op.v)))(M:g≠ [])(U:lo "group" =am (.ref r))(gl:g.length<1000),Evv (aA aG (aA aG (eN "group") (eK (.int 0))) (eK (.int 3))) lo H (.int (t1 g))) g (M p O) U ((D.gl N al t) p O) _ (aO ((by
    intro H lo r g h M U
    rcases oF g with q |⟨g,o,rfl⟩
    ·exact bv q M
    ·exact rwL ((s2_at o g).2) (λQ q=>bJ (bJ (aW U (mE (Lp.mk (lM (bI▸h)) (cL (Lp.mk rfl q))))))):∀{H:MH}{lo:Lo}{r:Nat}{g:aq Op}(h:H[r]? =am (.list (g.map Op.v)))(M:g≠ [])(U:lo "group" =am (.ref r)),Evv (aA aG (aA aG (eN "group") (cS (eK (.int 1)))) (eK (.int 4))) lo H (.int (t2 g))) g (M p O) U _ (bF ⟨(show 4<100 by decide),q x ha⟩))))))))):∀{C:Cx}{H:MH}{lo:Lo}{a:aq Int}{b:aq Int}{n:Int}{Z:Nat}{T:Nat}{l:aq Op}{ps:aq (Nat×aq Op)}{R:EK}(N:0<=n)(al:a.length<64)(t:b.length<64)(h1:lo "groups" =am (.ref T))(D:Cgs H a b n Z T l ps)(k:∀ {H' r},Hx H H'->H'[r]? =am (.list (((ps.map Prod.snd).map hd4).map Hd.v))->H[r]? =ba->R (.ref r) H'),hdsE (C:=C) lo H R) N al t (A _ (.ref T) ⋯) G5 (λ{H6 r6} x6 h6 f6=>uE (x6 _ _ cz) (by rw[bg];exact zzM2 0x257b0ca0f41f69000a290470fd07da00007 [k,hs.length] ⋯ k3 dd) (aQ (aK ?_))))
 have n6:=jS cz f6
 have S:=(W.trans x5).trans x6
 have cy:Hx B (H6.set rh (.list (hs.map rv++[.ref r6]))):=(hx.trans S).set D.h
 have J:(H6.set rh (.list (hs.map rv++[.ref r6])))[rh]? =am (.list (hs.map rv++[.ref r6])):=aP (S _ _ hh) _
 have s:∀ {r:Nat}{m:MO},r≠rh->H6[r]? =am m->(H6.set rh (.list (hs.map rv++[.ref r6])))[r]? =am m:=λn e=>aM e n.symm
 have V:=s n6 h6
 have cv:=s nc ((x6 _ _ G5.hc))
 have cx:=s dm (S _ _ O)
 have cw:=λp d=>s (hu p d).2 (S _ _ (hu p d).1)
 have db:=λp d=>s (hd p d).2 (S _ _ (hd p d).1)
 revert cy J V cv cx cw db
 generalize H6.set rh (.list (hs.map rv++[.ref r6]))=H7
 intro cy J V cv cx cw db
 have P:Pth (bK vp k) (bK vp (k+1)) (carr n l be) ((ps.map Prod.snd).map hd4):=by exact rwL A0 (rwL A1 (G.gp.path N G.c))
 have h3:3*((ps.map Prod.snd).map hd4).length<=bK vp k+bK vp (k+1)+2:=by rw[A0,A1,bg];exact G.gp.hd3 N G.c
 refine ck5_i X P (by exact rwL A1 t) (by rw[A0,A1]at h3;exact Y309 al t h3) (A _ (.ref rh) ⋯) J V λ{H8} x8=>aQ (aK ?_)
 have ul:us.length<100000:=by
  have h:=ch.ne.2.1
  rw[bg]at h
  have:bK vp 0<=24:=by
   delta bK
   cases q:vp[0]? with
   |none=>exact jw _
   |some p=>exact(D.v.v 0 p q).2
  exact zzM2 0x54387583d07da00018f69007a68007 [us.length,bK vp 0] ⋯ h this
 have dg:∀ p∈us,p.2≠ []/\p.2.length<1000:=λp d=>by
  have h:=ch.ne.1 p.2 (ql d)
  exact⟨λq=>(by cases (q▸h)),zzM2 0x95fa3d07da40001f680290470fd07da00007 [k,p.snd.length] ⋯ k3 h⟩
 refine pa1_i (n:=n) X (zzM1 0x15fa3d07da00006a3d07da00007 [l.length] ⋯ (G.ll al t)) (A _ (.ref rp) ⋯) (A.re _ ⋯) (x8 _ _ cv) (x8 _ _ cx) (λp d=>x8 _ _ (cw p d)) dg ul λ{H9 r9 ws} x9 h9 hw e f9 fw=>aQ (aK ?_)
 have F4:=A.cons "paths" (.ref r9)
 revert F4
 generalize upd dk "paths" (.ref r9)=dr
 intro F4
 have wl:ws.length<100000:=by
  have:=b3 List.length e
  rw[bg,bg,bg]at this
  exact zzM2 0x94387583d07da40028a411c387583d07da00007 [us.length,ws.length] ⋯ ul this
 have dh:∀ p∈ws,p.2≠ []:=λp d q=>by
  have:=e▸ql d
  refine xEA (nq.mp this) λu _ z=>?_
  have:=b3 List.length (q▸z)
  rw[bq]at this
  cases this
 refine (by
  intro C H K lo rp us h1 O hu M ul k
  have ef:∀ us:aq (Nat×aq Int),(us.flatMap λp=>bif decide (vl p.2>=0) then [rv p] else [])=(us.filter λp=>decide (vl p.2>=0)).map rv:=λus=>by
   induction us with
   |nil=>rfl
   |cons p us ih=>
    rw[lp,ih,List.filter_cons]
    cases decide (vl p.2>=0)<;>rfl
  refine cE (cZ rv (λp=>bif decide (vl p.2>=0) then [rv p] else []) (λ_=>qm) us h1 (aL O) trivial ?_ (λp d=>⟨λ{lo1 H1 acc P} _ x ha dc kk=>?_⟩) λ{H'} x h'=>k x (by rw[h',ef]) (aI H))
  ·rw[ef,bg]
   exact Y243 ul (List.length_filter_le (λp:Nat×aq Int=>decide (vl p.2>=0)) us)
  ·refine yU (Evv.bin (vl_at (x _ _ (hu p d)) (M p d) bT) .k ge_e _ (Lf.mk rfl ?_))
   revert kk dc
   generalize decide (vl p.2>=0)=z
   intro dc kk
   cases z with
   |false=>exact b8 (put0 x ha rfl trivial kk)
   |true=>exact b7 (aW bT (vA (aI H) x ha dc rfl trivial kk)):∀{C:Cx}{H:MH}{K:SK}{lo:Lo}{rp:Nat}{us:aq (Nat×aq Int)}(h1:lo "paths" =am (.ref rp))(O:H[rp]? =am (.list (us.map rv)))(hu:HB oI H us)(M:∀ p∈us,p.2≠ [])(ul:us.length<100000)(k:∀ {H' r},Hx H H'->H'[r]? =am (.list ((us.filter λp=>decide (vl p.2>=0)).map rv))->H[r]? =ba->K .next (upd lo "paths" (.ref r)) H'),pa2 (C:=C) lo H K) (F4 _ (.ref r9) ⋯) h9 hw dh wl (λ{dq di} de dl dj=>aQ ?_)
 have E:=(x8.trans x9).trans de
 have eU:(ws.filter λp=>decide (vl p.2>=0)).map Prod.snd=ext (carr n l be) (us.map Prod.snd):=by
  rw[<-(by
   intro φ h L
   induction L with
   |nil=>rfl
   |cons u L ih=>
    refine rwL kn (rwL List.filter_cons (rwL (kG (m0 _ _) u) (rwL ih ?_)))
    cases q:φ (vl u) with
    |none=>
     exact rwL (bz (by decide)) ((iz (by rw[q];rfl)).symm)
    |some y=>
     exact rwL (ca (bm (h q))) ((ik (by rw[q];rfl)).symm):∀{φ:Int->bc Int}(h:∀ {x y:Int},φ x=am y->0<=y)(L:aq (aq Int)),(L.map λu=>u++[(φ (vl u)).getD (-1)]).filter (λw=>decide (vl w>=0))=ext φ L) (λ{x y} q=>(by
   intro a b n x y f i j l h
   induction h with
   |nil=>exact λ_ e=>aE e
   | @eq f i j k l hf p m h ih=>
    intro g j0 e
    rw[aGr]at e
    revert e
    cases q:(Op.tag ⟨.eq,i,i+k,j,j+k⟩).isEq && (decide (i<=x) && decide (x<i+k)) && ((g || decide (n<=x-i)) && (l.isEmpty || decide (n<i+k-x))) with
    |false=>exact λe=>ih (zzI2 0x568a4003d0a903d087a01f40f40087 [k,j] ⋯ p j0) e
    |true=>
     exact λe=>(Y303 j0 (Option.some.inj e) (cb ((du.mp (du.mp (du.mp q).1).2).1)))
   | @ch f i j i' j' g l hf hg hi hj lt h ih=>
    intro g' j0 e
    exact ih (zzI2 0x56903d0a803d087a68087 [j,j'] ⋯ hj j0) (rwR (iT (zA hg)) e):∀{a b:aq Int}{n x y:Int}{f:bc ec}{i j:Int}{l:aq Op}(h:Cod a b f i j l),∀ {g:ec},0<=j->carr n l g x=am y->0<=y) G.c (c4 _) q),<-e,List.filter_map];rfl
 refine go.nx (.mk (hs:=hs++[(r6,(ps.map Prod.snd).map hd4)]) (fs:=fs++[carr n l be]) Y257 ((F4.cons "paths" (.ref di)).re _ ⋯) (cy.trans E) (rwL bI (E _ _ J)) (λp d=>?_) dl (jS ((x8.trans x9) _ _ J) dj) (λp d=>?_) ?_)
 ·rcases e7.mp d with q |q
  ·exact⟨E _ _ (db p q),(hd p q).2⟩
  ·exact rwL (dv.mp q) ⟨E _ _ V,n6⟩
 ·have q:=(vr.mp d).1
  exact⟨de _ _ (hw p q),(λf=>jS (x8 _ _ J) f) (fw p q)⟩
 ·exact rwL eU (rwL bI (ch.step P h3))
theorem aI2{c2:Nat}(a:Nat->Lo->MH->Prop)(f:∀ {p lo H},a p lo H->H[t]? =am .zt/\lst H (.ref c1)=am vs/\lst H (.ref c2)=am (vs.drop 1))(j:∀ {p lo H},p+1=vs.length->a p lo H->Q .next lo H)(hs:∀ {p v w lo H K},vs[p]? =am v->vs[p+1]? =am w->a p lo H->GoK (a (p+1)) Q K->tgt (.tup [v,w]) lo H λlo1 H1=>body lo1 H1 K):∀ (k:Nat){p:Nat}{lo:Lo}{H:MH},p+k+1=vs.length->a p lo H->dK (kZip C) tgt body (k+1) ⟨c1,c2,t,p⟩ lo H Q:=λk=>by
 induction k with
 |zero=>
  intro p lo H b h
  refine xAA (f h) λh1 d e=>?_
  have c:=Y323 b
  refine⟨h1,Lf.mk d (Lf.mk e (Lf.mk (show vs[p]? =am vs[p] from getElem?_eq_getElem c) ?_))⟩
  exact rwL (by exact rwL List.getElem?_drop (gV (zzM1 0xaa01f40a40a41f40f68000047 [p,vs.length] ⋯ b)):(vs.drop 1)[p]? =ba) (j b h)
 |succ k i=>
  intro p lo H b h
  refine xAA (f h) λh1 d e=>?_
  have c:=Y321 b
  have g:=Y320 b
  refine⟨h1,Lf.mk d (Lf.mk e (Lf.mk (show vs[p]? =am vs[p] from getElem?_eq_getElem c) ?_))⟩
  have e0:=getElem?_eq_getElem g
  show(λo=>_) _
  exact rwL (by exact rwL List.getElem?_drop (rwL (wa 1 p) e0):(vs.drop 1)[p]? =am vs[p+1]) (hs (getElem?_eq_getElem c) e0 h (.loop λh'=>i (Y319 b) h'))
theorem len4{u:aq Int}(h:u.length=4):∃ a b c d,u= [a,b,c,d]:=by
 match u,h with
 | [a,b,c,d],_=>exact⟨a,b,c,d,rfl⟩
theorem eqv4{b a:Int}(h:H[r]? =am (.list [.int 1,.int 1,.int 1,.int 1]))(h':H[e]? =am (.list [.int d,.int b,.int c,.int a])):eqv H (.ref r) (.ref e)=am (decide (d=1) && (decide (b=1) && (decide (c=1) && (decide (a=1) && be)))):=by
 delta eqv
 refine rwL (oJ V.int dI (aL h) λq q=>rfl:rd H eqD (.ref r)=am (.list ([1,1,1,1].map dI))) (rwL (oJ V.int dI (aL h') λq q=>rfl:rd H eqD (.ref e)=am (.list ([d,b,c,a].map dI))) (?_:am _=_))
 rw[(by kernel_rfl:PyData.eqv (.list ([1,1,1,1].map dI)) (.list ([d,b,c,a].map dI))=(decide ((1:Int)=d) && (decide ((1:Int)=b) && (decide ((1:Int)=c) && (decide ((1:Int)=a) && be)))))]
 simp only[eq_comm]
theorem aD4{a b:V}(q:Q (.ref H.length) (H++[.list [a,b,c,d]])):Lp (mkL [a,b,c,d] H) Q:=Lp.mk (by exact ca (show 4<1000000 by decide)) q
def zF(r1 r2:Nat):aq (Str×V):=[("one",.ref r1),("two",.ref r2)]
def zT:AF:=cM 2 (asC (aN "one") (asC (aN "two") asN))
def KX(r:Nat)(B H:MH):Prop:=∀ (i:Nat) (m:MO),i≠r->B[i]? =am m->H[i]? =am m
theorem KX.hx{a:MH}(k:KX r B H)(x:Hx H a):KX r B a:=λi m n e=>x i m (k i m n e)
theorem KX.set(k:KX r B H):KX r B (H.set r m):=λi m n e=>aM (k i m n e) n.symm
def zL(rd rh rs:Nat):aq (Str×V):=[("due",.ref rd),("heads",.ref rh),("script",.ref rs)]
inductive ZI(B:MH)(rd rh rs:Nat)(us:aq (Nat×aq Int))(L:aq Hd)(p:Nat)(lo:Lo)(H:MH):Prop
 |mk {acc:aq Hd} (F:Fs (zL rd rh rs) lo) (hx:KX rd B H) (h:H[rd]? =am (.list (acc.map Hd.v))) (e:∀ q,us[p]? =am q->acc++iO ((us.drop (p+1)).map Prod.snd) q.2=L) (al:acc.length<=p):ZI B rd rh rs us L p lo H
theorem zstep{rd:Nat}(hu:∀ q∈us,B[q.1]? =am (.list (oI q.2))/\q.2.length=4/\q.1≠rd)(T:us.length<10000)(hv:(us.map rv)[p]? =am v)(hw:(us.map rv)[p+1]? =am w)(I:ZI B rd rh rs us L p lo H)(Z:GoK (ZI B rd rh rs us L (p+1)) Q K):zT (.tup [v,w]) lo H λlo1 H1=>zB (C:=C) lo1 H1 K:=by
 cases I with
 | @mk acc F A h e al=>
 obtain⟨O,e1,rfl⟩:=gh .. ▸hv |> dy.mp
 obtain⟨N,D,rfl⟩:=gh .. ▸hw |> dy.mp
 have E:=hu O (eg e1)
 have J:=hu N (eg D)
 have ee:=e O e1
 have M:=(List.getElem?_eq_some_iff.mp D).1
 have dr:us.drop (p+1)=N::us.drop (p+2):=by
  exact (rwR ((List.getElem?_eq_some_iff.mp D).2) (List.drop_eq_getElem_cons M))
 rw[dr]at ee
 refine (by exact λ{H lo v w R} q=>kch (B:=(2=2/\R (upd (upd lo "one" v) "two" w) H)) ⋯ ⟨rfl,q⟩:∀{H:MH}{lo:Lo}{v w:V}{R:Lo->MH->Prop}(q:R (upd (upd lo "one" v) "two" w) H),zT (.tup [v,w]) lo H R) ?_
 have c:=(F.cons "one" (rv O)).cons "two" (rv N)
 revert c
 generalize upd (upd lo "one" (rv O)) "two" (rv N)=lo1
 intro c
 obtain⟨s,u⟩:=O
 obtain⟨o,w⟩:=N
 obtain⟨a0,m,t,b,rfl⟩:=len4 E.2.1
 obtain⟨b0,l,j,d,rfl⟩:=len4 J.2.1
 have W:Hx H (H++[MO.list [V.int 1,.int 1,.int 1,.int 1]]):=.app _ _
 refine aK (uY (te_i (bJ ((by exact λ{H lo Q} q=>kch ⋯ (aD4 q):∀{H:MH}{lo:Lo}{Q:EK}(q:Q (.ref H.length) (H++[.list [.int 1,.int 1,.int 1,.int 1]])),one4 lo H Q) ((by
  intro C H lo s o u w Q F h1 U T wl k
  refine qO nv (λi=>[V.int (w.getD i 0-u.getD i 0)]) (Fs (zF s o)) (List.range 4) (λ{P} q=>kch (B:=rOk 0 4 1=be/\P (0,4,1) H) ⋯ ⟨by kernel_rfl,q⟩) (oM 4 0) (F.hide ⋯) (by rw[cB (λi=>V.int (w.getD i 0-u.getD i 0)),bg,qi];decide) (λi hi=>⟨λ{lo1 H1 acc P} c x ha Y kk=>?_⟩) λ{H'} x h'=>k x (by rw[h',cB (λi=>V.int (w.getD i 0-u.getD i 0))])
  have X:=c.up (y:="k") (w:=nv i) ⋯
  have g:∀ {v:aq Int}{r:Nat},v.length=4->H[r]? =am (.list (oI v))->aG (.ref r) (nv i) H1=am (.int (v.getD i 0),H1):=λ{v r} vl h=>l5 (x _ _ h) (by
   show(v.map V.int)[i]? =_
   rw[gh,ce,getElem?_eq_getElem (zzM2 0xa6907da00004f6904713d07da00007 [i,v.length] ⋯ (List.mem_range.mp hi) vl)];rfl) (by show(v.map V.int).length<_;rw[bg];exact Y311 vl)
  exact jH (Evv.bin (Evv.bin (.n (X _ (.ref o) ⋯)) (.n bT) (g wl U)) (Evv.bin (.n (X _ (.ref s) ⋯)) (.n bT) (g T h1)) mV _ (vA (aI H) x ha Y rfl X kk)):∀{C:Cx}{H:MH}{lo:Lo}{s o:Nat}{u w:aq Int}{Q:EK}(F:Fs (zF s o) lo)(h1:H[s]? =am (.list (oI u)))(U:H[o]? =am (.list (oI w)))(T:u.length=4)(wl:w.length=4)(k:∀ {H'},Hx H H'->H'[H.length]? =am (.list ((List.range 4).map λi=>V.int (w.getD i 0-u.getD i 0)))->Q (.ref H.length) H'),dfE (C:=C) lo H Q) (c.re _ ⋯) (W _ _ (A _ _ E.2.2 E.1)) (W _ _ (A _ _ J.2.2 J.1)) rfl rfl (λ{S} x2 U=>?_))))))
 have a:=W.trans x2
 refine Lp.mk (v:=.bool (!(ones [a0,m,t,b] [b0,l,j,d]))) (by delta aX;rw[eqv4 (x2 _ _ (aT H (MO.list [V.int 1,.int 1,.int 1,.int 1]))) U,(rfl:ones [a0,m,t,b] [b0,l,j,d]=(decide (b0-a0=1) && (decide (l-m=1) && (decide (j-t=1) && (decide (d-b=1) && be)))))];rfl) (Lf.mk rfl ?_)
 have f:acc++((bif ones [a0,m,t,b] [b0,l,j,d] then [] else [⟨a0+1,b0,b+1,d⟩])++iO ((us.drop (p+2)).map Prod.snd) [b0,l,j,d])=L:=ee
 revert f
 generalize ones [a0,m,t,b] [b0,l,j,d]=z
 intro f
 have g1:∀ {k:Nat}{x:Int},([a0,m,t,b]:aq Int)[k]? =am x->Evv (aA aG (eN "one") (eK (nv k))) lo1 S (.int x):=λ{k x} q=>.bin (.n (c _ (.ref s) ⋯)) .k (l5 (a _ _ (A _ _ E.2.2 E.1)) (by show(([a0,m,t,b]:aq Int).map V.int)[k]? =_;rw[gh,q];rfl) (show 4<100000 by decide))
 have g2:∀ {k:Nat}{x:Int},([b0,l,j,d]:aq Int)[k]? =am x->Evv (aA aG (eN "two") (eK (nv k))) lo1 S (.int x):=λ{k x} q=>.bin (.n (c _ (.ref o) ⋯)) .k (l5 (a _ _ (A _ _ J.2.2 J.1)) (by show(([b0,l,j,d]:aq Int).map V.int)[k]? =_;rw[gh,q];rfl) (show 4<100000 by decide))
 cases z with
 |true=>
  refine b8 (aQ (Z.nx (.mk (c.re _ ⋯) (A.hx a) (a _ _ h) (λq G=>?_) (pi al))))
  rw[D]at G;refine cxS G ?_
  exact f
 |false=>
  refine b7 (aK (uD (c _ (.ref rd) ⋯) (a _ _ h) (eO (aO ((.bin (g1 rfl) .k jB:Evv (aA aH (aA aG (eN "one") (eK (.int 0))) (eK (.int 1))) lo1 S (.int (a0+1))) _ (aO ((g2 rfl) _ (aO ((.bin (g1 rfl) .k jB:Evv (aA aH (aA aG (eN "one") (eK (.int 3))) (eK (.int 1))) lo1 S (.int (b+1))) _ (aO ((g2 rfl) _ (bF ⟨(show 4<100 by decide),uE (a _ _ h) (by rw[bg];exact zzM3 0x557b0ca0f41f69000a01f41f6a000007aa9007278c3d07da00007 [us.length,acc.length,p] ⋯ T al M) (aQ (aQ (Z.nx (.mk (acc:=acc++[⟨a0+1,b0,b+1,d⟩]) (c.re _ ⋯) ((A.hx a).set) (by exact rwL bI (aP (a _ _ h) _)) (λq G=>?_) (by exact rwL bq (zzM1 0x141f69001f68000a68007 [acc.length,p] ⋯ al:acc.length+1<=_))))))⟩))))))))))))
  rw[D]at G;refine cxS G ?_
  rw[dt]
  exact f
theorem Ways.left2{C:Nat}(W:Ways A B C D f g k h0 h1 h2):∃ m,Fd h0 h1 m/\Fd m h2 (due3 A B C D f g k)/\Hs A C m/\m.length<=A+1:=by
 refine xAA W.join λq c v=>?_
 have a:=VC.fd (by decide) (by decide) (rfl:vl [(A:Int),(B:Int)]=vh [(B:Int),(C:Int)]) W.s0.vc W.s1.vc
 have b:=VC.fd (by decide) (by decide) (rfl:vl [(A:Int),(B:Int),(C:Int)]=vh [(C:Int),(D:Int)]) v W.s2.vc
 rw[W.s0.hd,W.s1.hd]at a
 rw[W.s2.hd,c,lA (ext k (ext g (pt1 A f))++[rV A B C D]) (by decide)]at b
 exact⟨_,a,b,v.hs (by decide) rfl rfl⟩
theorem Ways.right2{C:Nat}(W:Ways A B C D f g k h0 h1 h2):∃ m,Fd h1 h2 m/\Fd h0 m (due3 A B C D f g k)/\Hs B D m/\m.length<=B+1:=by
 refine xAA W.join λq c q=>?_
 have a:=VC.fd (by decide) (by decide) (rfl:vl [(B:Int),(C:Int)]=vh [(C:Int),(D:Int)]) W.s1.vc W.s2.vc
 have v:=(VC.join0 (by decide) (by decide) (rfl:vl [(B:Int),(C:Int)]=vh [(C:Int),(D:Int)]) W.s1.vc W.s2.vc).2
 have b:=VC.fd (by decide) (by decide) (rfl:vl [(A:Int),(B:Int)]=vh [(B:Int),(C:Int),(D:Int)]) W.s0.vc v
 rw[W.s1.hd,W.s2.hd]at a
 rw[W.s0.hd,xL (by decide) W.s1.vc,c,lA (ext k (ext g (pt1 A f))++[rV A B C D]) (by decide)]at b
 exact⟨_,a,b,v.hs (by decide) rfl rfl⟩
theorem law_1(hs:lo "script" =am (.ref rs))(h:LI H rs a)(k:K .next (upd lo "n" (.int ((1+a.sum)%3))) H):aAh X lo H K:=by
 exact cE (bJ (bJ (cL (bG (aO (aW hs (bF (aCx h (aG0 (cL (Lp.mk (m4 (by decide)) k)))))))))))
theorem law_3(j:lo "versions" =am (.ref rver))(V:Vers H rver vp)(b:vp.length=4)(k:∀ {H' rh rp}{us:aq (Nat×aq Int)},Hx H H'->H'[rh]? =am (.list [])->H[rh]? =ba->H'[rp]? =am (.list (us.map rv))->rp≠rh->(∀ p∈us,H'[p.1]? =am (.list (oI p.2))/\p.1≠rh)->us.map Prod.snd=((lns (bK vp 0) 0).map λi=>[i])->K .next (upd (upd lo "paths" (.ref rp)) "heads" (.ref rh)) H'):aAf X lo H K:=by
 have c:Hx H (H++[MO.list []]):=.app _ _
 have e0:=getElem?_eq_getElem (Y335 b)
 have a0:=V.v 0 _ e0
 have A0:bK vp 0=vp[0].2.length:=by delta bK;rw[e0];rfl
 revert e0 a0 A0
 generalize vp[0]=p0
 intro e0 a0 A0
 have d:=aT H (MO.list [])
 refine jY (eO (aO (pY (aO (wE oI nv (λi=>[(i:Int)]) (λy=>qm) (List.range (bK vp 0)) (by exact rwL qi (zzM2 0x250e1d60f41f69000a2904703d23e63d028007 [p0.snd.length,bK vp 0] ⋯ a0.2 A0)) (λ{P} q=>aE4 (zzM2 0x2551ec3283d07da291000a8a4407da1ec3283d140085a2904703d23e63d028007 [p0.snd.length,bK vp 0] ⋯ a0.2 A0) (λQ q=>bG (aO ((.bin (.n j) .k (l5 (c _ _ V.h) (by rw[gh,e0];rfl) (by rw[bg];exact Y311 b)):Evv (aA aG (eN "versions") (eK (.int 0))) lo (H++[MO.list []]) (.ref p0.1)) _ (bF (qA (c.li a0.1) (by rw[bg];exact zzM1 0x57b0ca0f41f6800003d23e63d028007 [p0.snd.length] ⋯ a0.2) (by rw[bg,<-A0];exact q)))))) (by rw[jb];exact q)) (by rw[<-aDj];exact oM _ 0) trivial (λi w {o H1 P} y x a=>(jH (rW (aW bT (mF (a trivial (.app _ _) (aT _ _) (aI _))))))) λ{u us} f r l e t=>bF ⟨(show 2<100 by decide),?_⟩)))))
 ·refine Lf.mk rfl ⟨rfl,Lf.mk (p:=upd (upd lo "paths" (.ref (H++[MO.list []]).length)) "heads" (.ref H.length)) ⋯ (k (c.trans f) (f _ _ d) (aI H) r (by exact rwL bq (oy _)) (λp g=>⟨l p g,jS d (t p g)⟩) ?_)⟩
  rw[e,(by
   exact λm=>by
     induction m with
     |zero=>exact λy=>rfl
     |succ m s=>
      intro i
      show i::lns m (i+1)=_
      rw[s,List.range_succ_eq_map,kn,pp]
      exact congr (b3 _ (zzI0 0x5a00f44a00a03 [i] ⋯)) (ot λk y=>(Y336:i+1+(k:Int)=i+((k+1:Nat):Int))):∀ (m:Nat) (i:Int),lns m i=(List.range m).map λk=>i+(k:Nat)),pp]
  exact ot λi y=>by
   show [(i:Int)]= [0+(i:Int)]
   rw[kj]
theorem law_4{us:aq (Nat×aq Int)}(g:0<=n)(D:Und B rn rver rh nums vp)(F:Fs (lF rn rver rh rp rs n) lo)(l:Hx B H)(j:H[rh]? =am (.list []))(d:H[rp]? =am (.list (us.map rv)))(b:rp≠rh)(f:∀ p∈us,H[p.1]? =am (.list (oI p.2))/\p.1≠rh)(e:us.map Prod.snd=((lns (bK vp 0) 0).map λi=>[i]))(k:∀ {a H'},LJ B rn rver rh rs n vp 3 a H'->K .next a H'):aAe X lo H K:=by
 show gP (kU C) (iR (aJ gN (esC (eK (.int 3)) esN))) (aN "step") (sBd X) lo H K
 refine kJ (aE4 (by decide) .k ⟨_,oS (LJ B rn rver rh rs n vp) k (λx3 I c=>aHm X g D x3 I c) 3 0 rfl (.mk (hs:=[]) rfl F l j (λq h=>bv h dz) d b f (by exact rwL e .zero))⟩)
def lens(vp:aq (Nat×aq Int)):aq Int:=vp.map λp=>(p.2.length:Int)
theorem law_7{rd:Nat}{us:aq (Nat×aq Int)}(F:Fs (("paths",.ref rp)::zL rd rh rs) lo)(l:H[rd]? =am (.list []))(o:H[rp]? =am (.list (us.map rv)))(A:rp≠rd)(w:∀ p∈us,H[p.1]? =am (.list (oI p.2))/\p.2.length=4/\p.1≠rd)(s:us.length<10000)(e:us.map Prod.snd=j::U)(k:∀ {b H'},KX rd H H'->H'[rd]? =am (.list ((iO U j).map Hd.v))->Fs (zL rd rh rs) b->K .next b H'):aAc X lo H K:=by
 have le:=b3 List.length e
 rw[bg,ea]at le
 have vl:(us.map rv).length=us.length:=bg ..
 have r:Hx H (H++[MO.list ((us.map rv).drop 1)]):=.app _ _
 have t:Hx (H++[MO.list ((us.map rv).drop 1)]) (H++[MO.list ((us.map rv).drop 1)]++[MO.zt]):=.app _ _
 have c:=r.trans t
 refine kJ (aO (aW (F _ (.ref rp) ⋯) (aO (iN (aW (F _ (.ref rp) ⋯) (cL (cL (cL (Lf.mk rfl (Lf.mk rfl (Lf.mk rfl (lC (aL o) (by exact rwL vl (zzM1 0x57b0ca0f41f68000278c3d07da00007 [us.length] ⋯ s)) (by decide) (rwL (y5 (by decide) (by exact rwL vl (zzM1 0x2a8a0407d081f69028047 [us.length,U.length] ⋯ le))) (bF (Lf.mk rfl ⟨⟨_,aL (r _ _ o)⟩,⟨_,aL (aT _ _)⟩,⟨_,aI2 (λp b H'=>ZI (H++[MO.list ((us.map rv).drop 1)]++[MO.zt]) rd rh rs us (iO U j) p b H') (λ{p b H'} I=>?_) (λ{p b H'} d I=>?_) (λhv E I y=>zstep (λq g=>⟨c _ _ (w q g).1,(w q g).2⟩) s hv E I y) U.length (by exact rwL vl (zzM1 0x12aa01f6903d000041f69028047 [us.length,U.length] ⋯ le)) (.mk (acc:=[]) (F.re _ ⋯) (λJ J J e=>e) (c _ _ l) (λq g=>?_) (Nat.le_refl _))⟩⟩)))))))))))))))
 ·cases I with
  |mk x f h u al=>exact⟨f _ _ (λq=>aE ((aI _).symm.trans (q▸r _ _ l))) (aT (H++[MO.list ((us.map rv).drop 1)]) MO.zt),aL (f _ _ A (c _ _ o)),aL (f _ _ (λq=>aE ((aI H).symm.trans (q▸l))) (t _ _ (aT H (MO.list ((us.map rv).drop 1)))))⟩
 ·cases I with
  | @mk acc x f h u al=>
  rw[vl]at d
  have:=u _ (getElem?_eq_getElem _:us[p]? =am (us[p]'(Y209 d)))
  rw[nN.mpr (zzM1 0x281f6802902907da00047 [p,us.length] ⋯ d)]at this
  have a:acc=iO U j:=by
   rw[<-this]
   show acc=acc++[]
   rw[gz]
  exact k (λi m n z=>f i m n (c _ _ z)) (rwR a h) x
 ·cases us with
  |nil=>cases e
  |cons G us=>
   cases g
   injection e with B D
   show []++iO (us.map Prod.snd) q.2=_
   rw[B,D];rfl
theorem aDh{rd:Nat}{L:aq Hd}(a:lo "due" =am (.ref rd))(b:∀ {R:EK},(∀ {H' r},Hx H H'->H'[r]? =am (.list (L.map Hd.v))->R (.ref r) H')->f lo H R)(c:H[rd]? =am (.list (L.map Hd.v)))(k:∀ {H'},K (.ret (.bool be)) lo H'):dQ (aA (aX id) f (eN "due")) lo H K:=by
 refine jI (bJ (b λ{H' r} x h=>aW a (Lp.mk (H:=H') ?_ k)))
 delta aX
 rw[j3 Hd.v dHd (aL h) (aL (x _ _ c)) (λo q=>aGg o) λo q=>aGh o];rfl
theorem xO{hs:aq (Nat×aq Hd)}(b:lo "heads" =am (.ref rh))(c:H[rh]? =am (.list (hs.map rv)))(a:hs.length=3)(e:(hs.map Prod.fst)[k]? =am r):Evv (aA aG (eN "heads") (eK (nv k))) lo H (.ref r):=by
 obtain⟨p,d,rfl⟩:=dy.mp (gh .. ▸e)
 exact .bin (.n b) .k (l5 c (by rw[gh,d];rfl) (by rw[bg];exact zzM1 0x24387583d07da00003f68047 [hs.length] ⋯ a))
theorem Vers.hx{ps:aq (Nat×aq Int)}(a:Vers H r ps)(x:Hx H H'):Vers H' r ps:=⟨x _ _ a.h,λi p e=>⟨x.li (a.v i p e).1,(a.v i p e).2⟩⟩
theorem KX.li{rd:Nat}(k:KX rd B H)(n:r≠rd)(h:LI B r l):LI H r l:=by
 show H[r]?.bind MO.vs=_
 change B[r]?.bind MO.vs=_ at h
 cases e:B[r]? with
 |none=>cases (e▸h)
 |some m=>exact rwL (k r m n e) (rwR e h)
theorem aCg(a:Vers H r vp):∀ k,k<4->bK vp k<=24+8*k:=λk b=>by
 delta bK
 cases q:vp[k]? with
 |none=>exact jw _
 |some p=>exact(a.v k p q).2
theorem li_ne(h:LI H rs a):rs≠H.length:=λq=>by
 change H[rs]?.bind MO.vs=_ at h
 rw[q,aI]at h;cases h
theorem law_ok(E:o.length<=63)(h:LI H rs o)(k:∀ {H'},Q (.bool be) H'):c_law X [.ref rs] H Q:=by
 refine⟨rfl,?_⟩
 have F:Fs [("script",.ref rs)] (loB ["script"] [.ref rs] lo0):=Fs.cons (l:=[]) nofun "script" (.ref rs)
 show aAj X (loB ["script"] [.ref rs] lo0) H (kK Q)
 revert F
 generalize loB ["script"] [.ref rs] lo0=lo
 intro F
 delta aAj
 refine aK ((by
  intro C H K lo X rs o hs h E k
  exact cE (qO nv (λk=>[V.int (numO o k)]) (λlo=>lo "script" =am (.ref rs)) (List.range 24) (λ{P} q=>kch (B:=rOk 0 24 1=be/\P (0,24,1) H) ⋯ ⟨by kernel_rfl,q⟩) (oM 24 0) (vT.trans hs) (hV (lU (out:=λk=>[V.int (numO o k)]) (λ_=>Nat.le_refl 1) _) (by rw[qi];decide)) (λk N=>(by
   exact λ{H lo rs o} h E {k} u=>y4 (J:=λlo=>lo "k" =am (nv k)/\lo "script" =am (.ref rs)) (aI H) (λi q=>q ⟨bT,vO.trans i⟩ (vO.trans i)) ⟨λj hx ha q=>(by
     intro H lo rs k o Q h E u N hs q
     refine bJ ((by exact λ{H lo k} u N=>.bin (.bin (.n N) (.bin (.n N) .k jB) (mul_e ⟨(zzM0 0x1a28101f68779d72c20f45002 [k] ⋯),zzM1 0x5779d72c20f41f68a0400263d07da00007 [k] ⋯ u⟩)) .k (aAq (by decide)):∀{H:MH}{lo:Lo}{k:Nat}(u:k<24)(N:lo "k" =am (nv k)),Evv (aA nQ (aA vE (eN "k") (aA aH (eN "k") (eK (.int 1)))) (eK (.int 2))) lo H (.int ((k:Int)*(k+1)/2))) u N _ (bG (aO (iN (aW hs (aW N (cL (cL (Lf.mk rfl (Lf.mk rfl (Lf.mk rfl (lC h (by rw[bg];exact zzM1 0x15ec3283d07da0001fa3d07da00007 [o.length] ⋯ E) (by decide) (bF ?_)))))))))))))
     rw[kN]
     exact aCx (vL _ _) (aG0 (q (.app _ _))):∀{H:MH}{lo:Lo}{rs k:Nat}{o:aq Int}{Q:EK}(h:LI H rs o)(E:o.length<1000)(u:k<24)(N:lo "k" =am (nv k))(hs:lo "script" =am (.ref rs))(q:∀ {H'},Hx H H'->Q (.int (numO o k)) H'),numE lo H Q) (hx.li h) E u j.1 j.2 (λx1=>q (hx.trans x1) (x1 _ _ ha))⟩:∀{H:MH}{lo:Lo}{rs:Nat}{o:aq Int}(h:LI H rs o)(E:o.length<1000){k:Nat}(u:k<24),Put (λlo=>lo "script" =am (.ref rs)) H H.length [V.int (numO o k)] (d6 (aN "k") (tK be) (bA numE H.length) (nv k))) h E (List.mem_range.mp N)) λ{H'} hx h'=>(k (l:=(List.range 24).map (numO o)) hx (rwL h' (rwL pp (b3 (λl=>am (MO.list l)) (List.map_eq_flatMap ..).symm))) (by rw[bg,qi]))):∀{C:Cx}{H:MH}{K:SK}{lo:Lo}(X:XX C){rs:Nat}{o:aq Int}(hs:lo "script" =am (.ref rs))(h:LI H rs o)(E:o.length<1000)(k:∀ {H' r}{l:aq Int},Hx H H'->H'[r]? =am (.list (l.map V.int))->l.length=24->K .next (upd lo "numbers" (.ref r)) H'),aAi X lo H K) X (F _ _ ⋯) h (zzM1 0x57e8f41f6800007ff68007 [o.length] ⋯ E) (λ{H1 rn mn} x1 hn nl=>aQ (aK ?_)))
 have F:=F.cons "numbers" (.ref rn)
 generalize upd lo "numbers" (.ref rn)=lo at F
 have n0:0<=(1+o.sum)%3:=Int.emod_nonneg _ (by decide)
 refine law_1 X (F _ (.ref rs) ⋯) (x1.li h) (aQ (aK ?_))
 revert n0
 generalize (1+o.sum)%3=n
 intro n0
 have F:=F.cons "n" (.int n)
 generalize upd lo "n" (.int n)=lo at F
 refine (cE (bG (aO (aW (F _ (.ref rn) ⋯) (bF (wN X (aL hn) nl (λ{H3 g f} x3 G vl=>aQ (aK ?_))))))))
 have F:=F.cons "versions" (.ref g)
 generalize upd lo "versions" (.ref g)=lo at F
 refine law_3 X (F _ (.ref g) ⋯) G vl λ{H4 rh rp y} x4 L fh hp my hu e=>aQ (aK ?_)
 have F:=(F.cons "paths" (.ref rp)).cons "heads" (.ref rh)
 generalize upd (upd lo "paths" (.ref rp)) "heads" (.ref rh)=lo at F
 refine law_4 X (rs:=rs) n0 (⟨x3 _ _ hn,nl,G,vl,fh⟩:Und H3 rn g rh mn f) (F.re _ ⋯) x4 L hp my hu e λ{nb H5} J=>aQ (aK ?_)
 cases J with
 | @mk k3 mx hs nj fs ex F5 x5 mq mo ms nd mz S=>
 have mt:=Y347 ex
 subst mt
 have v0:=(aCg G) 0 (by decide)
 have ul:=S.ne.2.1
 rw[bg]at ul
 refine (by
  intro C H K lo g f X rp y h1 h2 hp hu ul G mm k
  refine cE (bJ (bJ (rW ((by exact λ{H lo Q} q=>kch ⋯ (aD4 q):∀{H:MH}{lo:Lo}{Q:EK}(q:Q (.ref H.length) (H++[.list (oI (b9 4))])),cX (esC (cS (eK (.int 1))) (esC (cS (eK (.int 1))) (esC (cS (eK (.int 1))) (esC (cS (eK (.int 1))) esN)))) lo H Q) (mF ?_)))))
  have x2:Hx (H++[MO.list (oI (b9 4))]) (H++[MO.list (oI (b9 4))]++[MO.list [V.ref H.length]]):=.app _ _
  have q2:=aT (H++[MO.list (oI (b9 4))]) (MO.list [V.ref H.length])
  have M:=(.app _ _:Hx H (H++[MO.list (oI (b9 4))])).trans x2
  have T:=x2 _ _ (aT H (MO.list (oI (b9 4))))
  revert M T q2
  generalize (H++[MO.list (oI (b9 4))]).length=r2
  generalize H++[MO.list (oI (b9 4))]++[MO.list [V.ref H.length]]=H2
  generalize H.length=r1
  refine λq2 M T=>(aW h1 (jK q2 (M _ _ hp) (by rw[bg];exact(zzM1 0x15ec3283d07da01f40000278c3d07da00007 [y.length] ⋯ ul:1+y.length<_)) ?_))
  have x3:Hx H2 (H2++[MO.list ([V.ref r1]++y.map rv)]):=.app _ _
  have q3:=aT H2 (MO.list ([V.ref r1]++y.map rv))
  have w:=M.trans x3
  have D:=x3 _ _ T
  revert w D q3
  generalize H2++[MO.list ([V.ref r1]++y.map rv)]=H3
  generalize H2.length=r3
  refine λq3 w D=>(rW (cZ rv (λp=>[.int p.2.length]) (λ_=>qm) f h2 (aL (w _ _ G.h)) trivial (by rw[cB (λp:Nat×aq Int=>V.int p.2.length),bg];exact zzM1 0x25ec3283d07da00004f68047 [f.length] ⋯ mm) (λp s=>y1 (aI H3) λ{nh H4 acc Q} hn x ha q=>?_) λ{H4} x4 h4=>mF ?_))
  ·obtain⟨i,hi⟩:=kM s
   exact bG (aO (aW hn (bF (qA ((w.trans x).li (G.v i p hi).1) (by rw[bg];exact zzM3 0xbfd3fdec3283d07da4002807da80007a88f98f40a401c4f68047 [f.length,p.snd.length,i] ⋯ mm (G.v i p hi).2 ((List.getElem?_eq_some_iff.mp hi).1)) (by rw[bg];exact q x ha)))))
  ·rw[cB (λp:Nat×aq Int=>V.int p.2.length)]at h4
   have x5:Hx H4 (H4++[MO.list [V.ref H3.length]]):=.app _ _
   refine jK ((x4.trans x5) _ _ q3) (aT _ _) (by rw[bq,bg];exact(zzM1 0x57b0ca0f41f41f6807d000000278c3d07da00007 [y.length] ⋯ ul:1+y.length+1<_)) ?_
   have O:=x5.trans (.app _ [MO.list ([V.ref r1]++y.map rv++[V.ref H3.length])])
   have mj:=x4.trans O
   refine k (ws:=(r1,b9 4)::(y++[(H3.length,lens f)])) (w.trans mj) (rwL kn (rwL bI (aT _ _))) (λp s=>?_) (by rw[kn,bI];rfl)
   ·rcases e6.mp s with rfl |s
    ·exact mj _ _ D
    ·rcases e7.mp s with s |s
     ·exact(w.trans mj) _ _ (hu p s)
     ·exact rwL (dv.mp s) (rwL (show oI (lens f)=f.map λp=>V.int p.2.length by unfold oI lens;rw[pp];rfl) (O _ _ h4):_=am (MO.list (oI (lens f)))):∀{C:Cx}{H:MH}{K:SK}{lo:Lo}{g:Nat}{f:aq (Nat×aq Int)}(X:XX C){rp:Nat}{y:aq (Nat×aq Int)}(h1:lo "paths" =am (.ref rp))(h2:lo "versions" =am (.ref g))(hp:H[rp]? =am (.list (y.map rv)))(hu:HB oI H y)(ul:y.length<10000)(G:Vers H g f)(mm:f.length=4)(k:∀ {H' r}{ws:aq (Nat×aq Int)},Hx H H'->H'[r]? =am (.list (ws.map rv))->HB oI H' ws->ws.map Prod.snd=b9 4::(y.map Prod.snd++[lens f])->K .next (upd lo "paths" (.ref r)) H'),aAd X lo H K) X (F5 _ (.ref mx) ⋯) (F5 _ (.ref g) ⋯) ms (λp s=>(mz p s).1) (zzM2 0x549e30f41f69000a2900703d23e63d028007 [bK f 0,nj.length] ⋯ v0 ul) (G.hx x5) vl (λ{Z r6 ws} O h6 hw ew=>aQ (aK ?_))
 have F6:=F5.cons "paths" (.ref r6)
 generalize upd nb "paths" (.ref r6)=nc at F6
 refine (by exact λ{H K lo x} q=>kch ⋯ q:∀{H:MH}{K:SK}{lo:Lo}{x:Str}(q:K .next (upd lo x (.ref H.length)) (H++[.list []])),aV x (cX esN) lo H K) (aQ (aK ?_))
 have F7:=F6.cons "due" (.ref Z.length)
 generalize upd nc "due" (.ref Z.length)=nf at F7
 have x7:Hx Z (Z++[MO.list []]):=.app _ _
 have I:∀ {i:Nat}{m:MO},Z[i]? =am m->i≠Z.length:=λe q=>aE ((aI Z).symm.trans (q▸e))
 have A:=((x1.trans x3).trans (x5.trans O)).li h
 have wl:ws.length<10000:=by
  have:=b3 List.length ew
  rw[bg,ea,bq,bg]at this
  exact Y345 v0 ul this rfl
 have w4:∀ p∈ws,p.2.length=4:=λp s=>by
  have m:p.2∈ws.map Prod.snd:=ql s
  rw[ew]at m
  rcases e6.mp m with z |m
  ·rw[z];rfl
  ·rcases e7.mp m with m |m
   ·exact S.ne.1 _ m
   ·rw[dv.mp m]
    show(f.map _).length=4
    rw[bg];exact vl
 exact law_7 X (rh:=rh) (rs:=rs) (F7.re _ ⋯) (aT _ _) (x7 _ _ h6) (I h6) (λp s=>⟨x7 _ _ (hw p s),w4 p s,I (hw p s)⟩) wl ew λ{nk H8} kx h8 F8=>aQ ((by
  intro C H K lo X rd rh rs f hs fs U o V F A L hd S Y k
  generalize hs3:hs.map Prod.snd=ni at S
  cases S with
  | @step _ _ _ _ mw h2 c P2 l2=>
  cases c with
  | @step _ _ _ _ mv h1 c P1 l1=>
  cases c with
  | @step _ _ _ _ mr h0 c P0 l0=>
  cases c
  have v0:=V 0 (by decide)
  have v1:=V 1 (by decide)
  have v2:=V 2 (by decide)
  have v3:=V 3 (by decide)
  have W:Ways (bK f 0) (bK f 1) (bK f 2) (bK f 3) mr mv mw h0 h1 h2:=⟨P0,P1,P2⟩
  obtain⟨p0,p1,p2,rfl⟩:∃ p0 p1 p2,hs= [p0,p1,p2]:=by
   match hs,hs3 with
   | [p0,p1,p2],_=>exact⟨p0,p1,p2,rfl⟩
  obtain⟨r0,q0⟩:=p0
  obtain⟨r1,q1⟩:=p1
  obtain⟨r2,q2⟩:=p2
  injection hs3 with e0 z
  injection z with e1 z
  injection z with e2 z
  subst e0 e1 e2
  have d0:=hd (r0,q0) (by simp)
  have d1:=hd (r1,q1) (by simp)
  have d2:=hd (r2,q2) (by simp)
  have t:∀ {P:ec->MH->Prop},P (decide (o.sum%2=0)) H->tE (aA (aX id) (aA gQ (aJ yG (esC (eN "script") esN)) (eK (.int 2))) (eK (.int 0))) lo H P:=λ{P} q=>
   pE (Evv.bin (Evv.bin (λQ q=>bG (aO (aW (F _ (.ref rs) ⋯) (bF (aCx A q))))) .k (m4 (by decide))) .k aAk) q
  refine aK (uY (t ?_))
  cases decide (o.sum%2=0) with
  |true=>
   obtain⟨m,F1,F2,b,ml⟩:=W.left2
   refine b7 (aK (aDh (F _ (.ref rd) ⋯) (λ{R} kk=>(bG (aO (bG (aO ((λx=>xO (F _ (.ref rh) ⋯) (x _ _ L) rfl rfl) (Hx.refl _) _ (aO ((λx=>xO (F _ (.ref rh) ⋯) (x _ _ L) rfl rfl) (Hx.refl _) _ (bF (qG X d0 d1 P0.hs.1 P1.hs.1 (Y339 v1) (zzM5 0x3aad0a0f41f6cac00000bdaa9000b03f801c2f69a0002b0fe0070bd23e63d02a00707d23e63d02900703d23e63d028007 [bK f 0,bK f 1,bK f 2,(r0, q0).snd.length,(r1, q1).snd.length] ⋯ v0 v1 v2 l0 l1) F1 λ{H1 r} x1 s=>aO ((λx=>xO (F _ (.ref rh) ⋯) (x _ _ L) rfl rfl) x1 _ (bF (qG X s (x1 _ _ d2) b P2.hs.1 (Y341 v2) (zzM5 0x1dd570a0f41f6bb0000007da00b001c2f6aa4002b0fe0070fd23e63d02a0070bd23e63d02900703d23e63d028007 [bK f 0,bK f 2,bK f 3,(r2, q2).snd.length,m.length] ⋯ v0 v2 v3 l2 ml) F2 λ{H2 r'} x2 h'=>kk (x1.trans x2) h'))))))))))))) Y k))
  |false=>
   obtain⟨m,F1,F2,b,ml⟩:=W.right2
   refine b8 (aQ (aK (aDh (F _ (.ref rd) ⋯) (λ{R} kk=>(bG (aO ((λx=>xO (F _ (.ref rh) ⋯) (x _ _ L) rfl rfl) (Hx.refl _) _ (aO (bG (aO ((λx=>xO (F _ (.ref rh) ⋯) (x _ _ L) rfl rfl) (Hx.refl _) _ (aO ((λx=>xO (F _ (.ref rh) ⋯) (x _ _ L) rfl rfl) (Hx.refl _) _ (bF (qG X d1 d2 P1.hs.1 P2.hs.1 (Y341 v2) (zzM5 0x3aad0a0f41f6cac00000bdaa9000b03f801c2f69a0002b0fe0070fd23e63d02a0070bd23e63d02900707d23e63d028007 [bK f 1,bK f 2,bK f 3,(r1, q1).snd.length,(r2, q2).snd.length] ⋯ v1 v2 v3 l1 l2) F1 λ{H1 r} x1 s=>bF (qG X (x1 _ _ d0) s P0.hs.1 b (Y339 v1) (zzM4 0xeebd0a0f41f6ba8000007da40ac01c2f69a0002a0fe00707d23e63d02900703d23e63d028007 [bK f 0,bK f 1,(r0, q0).snd.length,m.length] ⋯ v0 v1 l0 ml) F2 λ{H2 r'} x2 h'=>kk (x1.trans x2) h'))))))))))))) Y k))):∀{C:Cx}{H:MH}{K:SK}{lo:Lo}(X:XX C){rd rh rs:Nat}{f:aq (Nat×aq Int)}{hs:aq (Nat×aq Hd)}{fs:aq (Int->bc Int)}{U:aq (aq Int)}{o:aq Int}(V:∀ k,k<4->bK f k<=24+8*k)(F:Fs (zL rd rh rs) lo)(A:LI H rs o)(L:H[rh]? =am (.list (hs.map rv)))(hd:∀ p∈hs,H[p.1]? =am (.list (p.2.map Hd.v)))(S:Chs (bK f) 3 fs (hs.map Prod.snd) U)(Y:H[rd]? =am (.list ((iO (U++[rV (bK f 0) (bK f 1) (bK f 2) (bK f 3)]) (b9 4)).map Hd.v)))(k:∀ {na H'},K (.ret (.bool be)) na H'),aB (aAb X) (aB (aAa X) (sK .next)) lo H K) X (aCg G) F8 (kx.li (li_ne A) (x7.li A)) (kx _ _ (I (O _ _ mq)) (x7 _ _ (O _ _ mq))) (λp s=>kx _ _ (I (O _ _ (mo p s).1)) (x7 _ _ (O _ _ (mo p s).1))) S (rwR ((by
    intro f h
    match f,h with
    | [a,b,c,d],_=>rfl:∀{f:aq (Nat×aq Int)}(h:f.length=4),lens f=rV (bK f 0) (bK f 1) (bK f 2) (bK f 3)) vl) h8) k)
theorem aEk(w:kb){s:bo}(a:∀ b o,(H1 w).get? b=am o->s.heap.get? b=am o):s.heap.NoLimit:=⟨_,y9 (a _ _ (yO w _ _ (Option.eq_some_of_isSome (by kernel_rfl)))) ⋯,by kernel_rfl⟩
theorem uM:∀ (ns:aq Int) (a:aq Tok),a.length=ns.length->VRs ρ h ((ns.zip a).map λx=>Value.int x.1 x.2) (ns.map V.int)
 | [],a,_=>by cases a<;>exact VRs.nil
 |n::ns,[],h=>nomatch h
 |n::ns,t::a,h=>VRs.cons (VR.int _ _) (uM ns a (Nat.succ.inj h))
theorem walk(w:kb)(c:bo)(a:d3)(ns:aq Int)(t:aq Tok)(s:∀ b o,(H1 w).get? b=am o->c.heap.get? b=am o)(y:c.gens= #[])(A:t.length=ns.length)(E:ns.length<=63)(B:c.heap.IsList a ((ns.zip t).map λx=>Value.int x.1 x.2).toArray)(h0:(H1 w).get? a=ba):bw (ir pw w) wo (call (.ref 285) [.ref a]) (λv s'=>v= .bool be/\(∀ b o,c.heap.get? b=am o->s'.heap.get? b=am o)/\s'.os=c.os/\qu s'.gens) (λF F=>f7) c:=by
 have S:Sim (mkCx pw w c (aEk w s) (gsh w.params)) [.ro (ns.map V.int)] [⟨a,a,ba⟩] c:=by
  refine⟨rfl,λF F e=>e,λi m l u d=>?_,λi l d=>?_,λi j D z n h g=>?_,λi j D z k n h g=>?_,rfl,.of_eq y⟩
  ·cases i with
   |zero=>exact cxS u (cxS d ⟨rfl,rfl,_,B,uM ns t A⟩)
   |succ i=>cases u
  ·cases i with
   |zero=>exact .inl ⟨_,rfl⟩
   |succ i=>cases d
  ·cases i with
   |zero=>cases j with
    |zero=>exact bv rfl g
    |succ j=>cases h
   |succ i=>cases n
  ·cases i with
   |zero=>cases j with
    |zero=>exact bv rfl g
    |succ j=>cases h
   |succ i=>cases n
 refine wmN (((by exact λ{C} X=>CV.def_ X.d_law ⋯ X.b_law (λF F=>.nil) (c7 ⋯) (λL=>(cU (X.D1 [fn0 "_law_carried" ((by exact λ{C} X=>CV.def_ X.d__law_carried ⋯ X.b__law_carried (λF F=>.nil) (c7 ⋯) (λL=>(cU (X.D1 [fn0 "_law_fold" (nF X) X.g__law_fold,fn0 "_law_patched" (gG X) X.g__law_patched,fn0 "_law_changes" (eQ X) X.g__law_changes,fn0 "_law_turned" (dL X) X.g__law_turned,fn0 "_law_versions" (cA X) X.g__law_versions]) rfl ⋯)):∀{C:Cx}(X:XX C),CV C 11 (.ref 280) (fI X)) X) X.g__law_carried,fn0 "_law_fold" (nF X) X.g__law_fold,fn0 "_law_patched" (gG X) X.g__law_patched,fn0 "_law_changes" (eQ X) X.g__law_changes,fn0 "_law_turned" (dL X) X.g__law_turned,fn0 "_law_versions" (cA X) X.g__law_versions]) rfl ⋯)):∀{C:Cx}(X:XX C),CV C 12 (.ref 285) (c_law X)) ⟨w,s,λF F F F=>rfl⟩).call (vs:=[.ref 0]) (Q:=λv F=>v= .bool be) ⟨rfl,by decide+kernel,by decide+kernel⟩ S (.cons (VR.ref (l:=⟨a,a,ba⟩) rfl) .nil) (law_ok ⟨w,s,λF F F F=>rfl⟩ E rfl λ{F}=>rfl)) λx s' p=>?_
 cases p with
 |mk f N r q=>
  subst q
  cases r
  exact⟨rfl,f.keep,f.os,f.bare⟩
theorem holds08:PySem.Challenge.rw_dm0053_08.Holds:=head walk
end Mine.Internal
theorem PySem.Challenge.cw_dm0053_08_holds : PySem.Challenge.rw_dm0053_08.Holds :=
 Mine.Internal.holds08
