import PyProof.Rows.All
import KE.KDictLaws
import KE.KFromBytes
import KE.KItemsList
import Wide.FinOn
import OpenK.AllK
import Wide.All
import Lean
import PySem.Challenge.RW_dm0053_07
set_option Elab.async false
set_option genInjectivity false
set_option genSizeOf false
set_option genCtorIdx false
set_option maxRecDepth 100000
set_option tactic.hygienic false
set_option linter.all false
set_option bootstrap.genMatcherCode false
set_option compiler.extract_closed false
open PySem PySem.W PyProof.Rows PySem.Calls
namespace Mine.Internal
open Lean in
local macro_rules (kind := Lean.Parser.Term.omission)
| s => return mkNode `Lean.Parser.Term.byTactic #[mkAtom "by",mkNode `Lean.Parser.Tactic.tacticSeq #[mkNode `Lean.Parser.Tactic.tacticSeq1Indented #[mkNullNode #[mkNode `tacticKernel_rfl #[mkAtom "kernel_rfl"]]]]]
open Lean in
local macro_rules (kind := Lean.Parser.Command.declaration)
| x => if x[1].isOfKind `Lean.Parser.Command.definition && x[0][4].isNone then return x.setArg 0 (x[0].setArg 4 (mkNullNode #[mkNode `Lean.Parser.Command.noncomputable #[mkAtom "noncomputable"]])) else Macro.throwUnsupported
open List (getElem?_eq_none_iff)
open Int (not_le le_min)
open Nat (beq ble blt)
open Option (pure_def)

open _root_.Option renaming some→ao,bind_eq_some_iff→bt,map_eq_some_iff→dr,map_some→pd,isSome_iff_exists→ph,bind_eq_bind→uy
open _root_ renaming List→aq,Option→bn,decide_eq_true→bp,decide_eq_false→bw,absurd→ca,if_neg→cc,if_pos→cj,of_decide_eq_true→cn,congrArg→cu,Bool→cw,decide_eq_decide→fk,False→fm,cond_true→f4,beq_self_eq_true→gy,cond_false→ik,Array→iz,beq_iff_eq→kb,if_false→mq,beq_eq_false_iff_ne→m2,String→qr,True→s7,Unit→tj,bne_iff_ne→uu,or_false→uz,if_true→vp
open _root_.Bool renaming false→aL,true→be,and_eq_true_iff→cp,false_eq_true→iu
open _root_.List renaming length_map→bq,length_append→bx,mem_cons_of_mem→b4,mem_cons_self→ce,getElem?_eq_getElem→cg,not_mem_nil→cx,prefix_refl→cy,append_assoc→cz,pairwise_cons→c3,getD_eq_getElem?_getD→c4,append_nil→c6,mem_singleton→dc,mem_cons→du,map_append→dv,getElem?_set_self→ef,getElem?_set_ne→ez,length_cons→e6,length_singleton→e8,mem_map_of_mem→e9,mapM_cons→fe,mem_of_getElem?→fq,getElem?_eq_none→ft,mem_append→gb,flatMap_cons→gj,mem_map→gw,length_filter_le→gM,getElem?_append_right→gO,length_range→hB,all_eq_true→hZ,mem_filter→h7,pairwise_iff_getElem→iy,pairwise_map→ja,map_eq_nil_iff→jc,map_cons→jf,filter_eq_nil_iff→jn,forIn_cons→jo,flatten_cons→jq,prefix_append→jr,filter_append→jw,mem_append_right→jx,length_nil→ly,map_congr_left→lI,getElem?_map→ma,drop_eq_nil_iff→mj,take_of_length_le→mn,flatten_singleton→mo,any_eq_true→ms,getElem_of_mem→my,mem_range→m0,contains_iff_mem→m1,getElem?_of_mem→nq,getElem_map→oq,filter_eq_self→pv,head?_drop→qa,drop_drop→qb,map_map→qf,ext_getElem→ql,length_take→qm,length_drop→qo,filter_cons→qp,set_set→qw,drop_left→qy,nil_append→rA,filter_congr→sy,drop_sublist→sO,cons_append→tD,forIn_nil→uc,find?_cons→uo,filter_map→uv,any_cons→vL
open PySem renaming Shared→bv,Value→bz,wpAny→bI,wpAny_holding→cb,builtinLookup_eq_fast→dq,Addr→dw,sizeLine_eq→dx,Params→dz,starEach→ee,typeLookup_type→eg,wpAny_callSpecial?_slot→et,Around→eu,wpAny_call_entry→e7,wpAny_mono→fg,wpAny_standAt→fh,assignEach→fp,mainGlobals→fu,typeLookup→fv,wpAny_field→fx,wpAny_seqItems→gu,foldedSetIterable→g4,wpAny_newObj_type→g5,model→h9,callEnvC→ie,PyData→iq,isSubtype_type→ir,eval→iw,compareOp→jd,Stmt→je,seqIndex?→jg,wpAny_call→jh,wpAny_of_eq→ji,codeAny_call_builtin→jk,wpAny_Call_ofName→jl,World→jp,swappedStores→jt,attributeBase→ju,wpAny_attempt→jv,Heap→jy,wpAny_isInstance→jz,builtinsNs→jN,NameKind→ka,slot_listiter_next→kn,backTo→kr,pyNext→ku,codeAny→kN,codeAny_mono→k6,Comprehension→lu,entryFor_of_tree→lH,codeAny_of_tree→mh,wpAny_updateSeq→mi,letTemporaryGo→mv,sysModules→mw,wpAny_items_cons→mG,clipAt→m3,wpAny_onRaise→ni,Program→nk,wpAny_specialOf→nr,codeAny_builtin→nu,execs→n5,isSubtype→og,builtinKind→oh,valueAt→ou,GenState→ow,wpAny_truthy_bool→oy,wpAny_pyIter_list→oz,wpAny_pyNext_list_item→oW,wpAny_setField→pi,isSubtype_stop→pj,builtinsGlobalAsBooted→pq,wpAny_rule→pY,assignInOrder→qd,plainId_quiet→qe,binaryOp→qh,interactive→qi,sliceBounds→qj,Scope→qk,wpAny_items_nil→qq,Result→qs,entry_listiter_next→qt,swapsWith→qz,intKind_is→q4,entryFor→ri,table→rk,checkBoundCall→rx,wpAny_newFunctionEnv_cells→ry,args_listiter_next→rz,intKind→rB,wpAny_assign_Name→rD,argsOk→rE,wpAny_handled→rF,foldedForSure→r5,wpAny_listSubscript_int→sb,wpAny_pyIter_gen→sf,getItem→sg,typeOf→si,isInstance→sr,callSpecial?→ss,OsState→su,wpAny_nextOf_list_item→sx,wpAny_execs_nil→sQ,letOwnedTupleGo→sU,execs_cons_wrap→sV,theTreesLotGoes→sW,wpAny_pyNext_list_end→tf,getitemInPython_of_ne→th,wpAny_letTemporaryGo→tm,entryFor_alias→tq,wpAny_loadPart→tu,FuncData→ty,wpAny_throw→tz,unsupported→tB,staticOf→tW,holding→tX,Keyword→ua,getAttr→ub,behindInMarks→ug,comprehension→uh,wpAny_newList→ui,bltViewBooted→uj,table_eq_tree→uk,assign→ul,pyIter→um,call_meets→uq,fresh→uw,Model→ux,wpAny_typeOf→uQ,sizeLine→uR,Flow→ve,DictEntry→vg,denote→vh,Reads→vi,keywordEach→vj,wpAny_letGo→vk,loadIfAlive→vn,standAt→vo,plainId→vq,Builtin→vr,callerA→vu,callWith→vw,field→vx,mainNs→vF,cStatics→vG
open _root_.Nat renaming le_refl→c5,lt_of_le_of_lt→ec,succ_le_succ→eH,ne_of_lt→gq,zero_le→hN,lt_of_lt_of_le→h8,le_of_ble_eq_true→io,lt_trans→kq,le_add_right→lq,le_succ_of_le→lw,lt_succ_self→md,le_add_left→mx,sub_self→ox,ne_of_gt→pn,lt_add_right→pu,min_eq_left→qg,succ_ne_self→qu,lt_or_ge→q0,le_of_eq→se,le_succ→uP,add_comm→vc
open _root_.Int renaming le_trans→dt,natCast_nonneg→eO,toNat_natCast→fo,sub_nonneg_of_le→gx,le_of_lt→ip,lt_irrefl→jm,add_le_add_left→kx,add_assoc→kz,not_lt→lr,min_eq_right→mc,zero_add→me,max_eq_right→mz,add_zero→nh,max_eq_left→n4,ofNat_le→ot,add_nonneg→px,le_max_right→qx,max_le→vJ
open PySem.W renaming boot_heap→dy,boot_drawn→gh,looks_findIn→lp,callWith_of→lJ,Looks→nj,boot_toks→on,topStub→pp,Frag→r3,check_slot→sj,absHeap→sv,looks_subIn→tO,ReadsAllW→ue,namesBound→ur,boot_o_0→u7,WRecords→vd,boot_o_2→vy,boot_o_4→vz,laidKept→vI
open PyProof.Rows renaming slot_tupleiter_next→lz,seqObj→ml,get?_update_seq→ny,AllBare→qc,listUpdate_at→rW,entry_tupleiter_next→tT,pairsOf→ud,args_tupleiter_next→uf,IsTupIter→vf,seqEpoch_at→vm
open _root_.LawfulBEq renaming eq_of_beq→pz
section
variable{a b c d e f g h i j k l:Int}{m n p q r s t u v w x y:Nat}
def zzB:=@wpAny_bind
def zzP:=@wpAny_pure
theorem zzE{n k:Nat}:n<(k+1)*(n/(k+1)+1):=Nat.lt_mul_div_succ n (Nat.succ_pos k)
theorem zzD:2*(n/2)<=n:=Nat.mul_div_le n 2
@[elab_as_elim]theorem rwL{α:Sort u}{motive:α->Prop}{a b:α}(h:a=b)(k:motive b):motive a:=h▸k
@[elab_as_elim]theorem rwR{α:Sort u}{motive:α->Prop}{a b:α}(h:a=b)(k:motive a):motive b:=h▸k
@[elab_as_elim]theorem cxSP{α:Type u}{e:Type v}{motive:α->e->Prop}{a c:α}{b d:e}(h:ao (a,b)=ao (c,d))(k:motive a b):motive c d:=by cases h; exact k
@[elab_as_elim]theorem cxS{α:Type u}{motive:α->Prop}{a b:α}(h:ao a=ao b)(k:motive a):motive b:=by cases h; exact k
@[elab_as_elim]theorem cxP{α:Type u}{e:Type v}{motive:α->e->Prop}{a c:α}{b d:e}(h:(a,b)=(c,d))(k:motive a b):motive c d:=by cases h; exact k
theorem cySP{α:Type u}{e:Type v}{a c:α}{b d:e}{P:Prop}(h:ao (a,b)=ao (c,d))(k:a=c->b=d->P):P:=by cases h; exact k rfl rfl
theorem cyS{α:Type u}{a c:α}{P:Prop}(h:ao a=ao c)(k:a=c->P):P:=by cases h; exact k rfl
theorem cyM{α:Type u}{a:α}{P:Prop}(h:ao a=none):P:=nomatch h
namespace Z
inductive T |v (i:Nat) |k (n:Nat) |o (c:Nat) (x y:T)
noncomputable abbrev Ln:=Int×aq Int×aq Int
noncomputable abbrev Al:=aq (aq Ln×Ln)
def dot(a:aq Int):aq Int->Int:=a.rec (λq=>0) λc q r x=>match x with | []=>0 |x::xs=>c*x+r xs
def ladd(a:aq Int):aq Int->aq Int:=a.rec (λb=>b) λc cs r b=>match b with | []=>c::cs |x::xs=>(c+x)::r xs
theorem i4(a b c d:Int):a+b+(c+d)=a+c+(b+d):=by omega
theorem aBk(a:aq Int):∀ b x,dot (ladd a b) x=dot a x+dot b x:=by
 induction a with
 |nil=>exact λb x=>(me _).symm
 |cons a d f=>
  intro b x
  cases b with
  |nil=>exact(nh _).symm
  |cons b e=>
   cases x with
   |nil=>rfl
   |cons x c=>
    show(a+b)*x+dot (ladd d e) c=(a*x+dot d c)+(b*x+dot e c)
    rw[f,Int.add_mul,i4]
theorem aBj(k:Int)(a:aq Int):∀ x,dot (a.map (k* ·)) x=k*dot a x:=by
 induction a with
 |nil=>exact λx=>(Int.mul_zero _).symm
 |cons a b d=>
  intro x
  cases x with
  |nil=>exact(Int.mul_zero _).symm
  |cons x c=>
   show k*a*x+dot (b.map (k* ·)) c=k*(a*x+dot b c)
   rw[d,Int.mul_add,Int.mul_assoc]
def un(i:Nat):aq Int:=i.rec [1] λq r=>0::r
theorem aG9(i:Nat):∀ x:aq Int,dot (un i) x=x.getD i 0:=by
 induction i with
 |zero=>intro x;cases x with
  |nil=>rfl
  |cons x a=>exact(nh _).trans (Int.one_mul _)
 |succ i b=>intro x;cases x with
  |nil=>rfl
  |cons x a=>exact(cu (·+_) (Int.zero_mul x)).trans ((me _).trans (b a))
def la(a b:Ln):Ln:=(a.1+b.1,ladd a.2.1 b.2.1,ladd a.2.2 b.2.2)
def lm(k:Int)(a:Ln):Ln:=(k*a.1,a.2.1.map (k* ·),a.2.2.map (k* ·))
def ls(a b:Ln):Ln:=la a (lm (-1) b)
def lk(k:Int):Ln:=(k,[],[])
def ev(xs:aq Int)(ns:aq Nat)(l:Ln):Int:=l.1+(dot l.2.1 xs+dot l.2.2 (ns.map Nat.cast))
theorem aGz(xs:aq Int)(ns:aq Nat)(a b:Ln):ev xs ns (la a b)=ev xs ns a+ev xs ns b:=by
 show a.1+b.1+(dot (ladd _ _) _+dot (ladd _ _) _)=a.1+(_+_)+(b.1+(_+_))
 rw[aBk,aBk,i4 (dot a.2.1 xs)];exact i4 ..
theorem aGy(xs:aq Int)(ns:aq Nat)(k:Int)(a:Ln):ev xs ns (lm k a)=k*ev xs ns a:=by
 show k*a.1+(dot (List.map _ _) _+dot (List.map _ _) _)=k*(a.1+(_+_))
 rw[aBj,aBj,Int.mul_add,Int.mul_add]
theorem sJ(xs:aq Int)(ns:aq Nat)(a b:Ln):ev xs ns (ls a b)=ev xs ns a-ev xs ns b:=by rw[ls,aGz,aGy,Int.neg_mul,Int.one_mul,Int.sub_eq_add_neg]
theorem qO(xs:aq Int)(ns:aq Nat)(k:Int):ev xs ns (lk k)=k:=nh k
def Sg(xs:aq Int)(ns:aq Nat)(g:aq Ln):Prop:=∀ q∈g,0<=ev xs ns q
def Sa(xs:aq Int)(ns:aq Nat)(a:Al)(z:Int):Prop:=∃ p∈a,Sg xs ns p.1/\ev xs ns p.2=z
def Sd(xs:aq Int)(ns:aq Nat)(d:aq (aq Ln)):Prop:=∃ g∈d,Sg xs ns g
def pr{β:Type}(f:aq Ln->Ln->Ln->aq β)(a b:Al):aq β:=a.flatMap λp=>b.flatMap λq=>f (p.1++q.1) p.2 q.2
theorem Sg.app{a b:aq Ln}(h:Sg xs ns a)(g:Sg xs ns b):Sg xs ns (a++b):=λq m=>(gb.mp m).elim (h q) (g q)
theorem Sg.sn{a:aq Ln}{l:Ln}(h:Sg xs ns a)(g:0<=ev xs ns l):Sg xs ns (a++[l]):=h.app λq m=>dc.mp m▸g
theorem Sg.nil:Sg xs ns []:=λq h=>ca h cx
theorem s6{c:Type}{f:aq Ln->Ln->Ln->aq c}{a b:Al}{x y:Int}{P:c->Prop}(h:Sa xs ns a x)(g:Sa xs ns b y)(k:∀ u v w,Sg xs ns u->ev xs ns v=x->ev xs ns w=y->∃ z∈f u v w,P z):∃ z∈pr f a b,P z:=h.elim λp h=>g.elim λq g=>(k _ _ _ (h.2.1.app g.2.1) h.2.2 g.2.2).elim λz m=>⟨z,List.mem_flatMap.mpr ⟨p,h.1,List.mem_flatMap.mpr ⟨q,g.1,m.1⟩⟩,m.2⟩
theorem Sa.one{l:Ln}(h:ev xs ns l=z):Sa xs ns [([],l)] z:=⟨_,List.mem_singleton_self _,.nil,h⟩
def op(c:Nat)(x y:Nat×Int):Nat×Int:=List.getD [(x.1+y.1,x.2+y.2),(x.1-y.1,x.2-y.2),(max x.1 y.1,max x.2 y.2),(min x.1 y.1,min x.2 y.2),(x.2.toNat,(x.1:Int)),(0,-x.2)] c ((c-32)*x.1,((c-32:Nat):Int)*x.2)
def aN(f:Ln->Ln->Ln):Al->Al->Al:=pr λg p q=>[(g,f p q)]
def aC(f:Ln->Ln->Ln×Ln):Al->Al->Al:=pr λg p q=>[(g++[ls p q],(f p q).1),(g++[ls q p],(f p q).2)]
def one:Al:=[([],lk 0)]
def al(c:Nat)(x y:Al×Al):Al×Al:=List.getD [(aN la x.1 y.1,aN la x.2 y.2),(aC (λp q=>(ls p q,lk 0)) x.1 y.1,aN ls x.2 y.2),(aC (λp q=>(p,q)) x.1 y.1,aC (λp q=>(p,q)) x.2 y.2),
 (aC (λp q=>(q,p)) x.1 y.1,aC (λp q=>(q,p)) x.2 y.2),(aC (λp q=>(p,lk 0)) x.2 one,x.1),(one,aN (λp a=>lm (-1) p) x.2 one)] c (aN (λp a=>lm (c-32:Nat) p) x.1 one,aN (λp a=>lm (c-32:Nat) p) x.2 one)
def S2(xs:aq Int)(ns:aq Nat)(a:Al×Al)(x:Nat×Int):Prop:=Sa xs ns a.1 x.1/\Sa xs ns a.2 x.2
theorem Sa.zero:Sa xs ns Z.one 0:=.one (qO xs ns 0)
theorem Sa.aN{a b:Al}{x y:Int}{f:Ln->Ln->Ln}(k:∀ p q,ev xs ns p=x->ev xs ns q=y->ev xs ns (f p q)=z)(h:Sa xs ns a x)(g:Sa xs ns b y):Sa xs ns (aN f a b) z:=s6 h g λu v w s e c=>⟨_,List.mem_singleton_self _,s,k v w e c⟩
theorem Sa.aC{a b:Al}{x y:Int}{f:Ln->Ln->Ln×Ln}(k:∀ p q,ev xs ns p=x->ev xs ns q=y->(y<=x->ev xs ns (f p q).1=z)/\(x<=y->ev xs ns (f p q).2=z))(h:Sa xs ns a x)(g:Sa xs ns b y):Sa xs ns (aC f a b) z:=s6 h g λu v w s e c=>(Int.le_total y x).elim
  (λl=>⟨_,.head _,s.sn (sJ xs ns v w▸gx (e▸c▸l)),(k v w e c).1 l⟩) λl=>⟨_,.tail _ (.head _),s.sn (sJ xs ns w v▸gx (e▸c▸l)),(k v w e c).2 l⟩
def den(xs:aq Int)(ns:aq Nat)(t:T):Nat×Int:=t.rec (λi=>(ns.getD i 0,xs.getD i 0)) (λn=>(n,(n:Int))) λc q q x y=>op c x y
def alt(t:T):Al×Al:=t.rec (λi=>([([],0,[],un i)],[([],0,un i,[])])) (λn=>([([],lk n)],[([],lk n)])) λc q q x y=>al c x y
theorem aHv(xs:aq Int)(ns:aq Nat)(t:T):S2 xs ns (alt t) (den xs ns t):=by
 induction t with
 |v i=>
  refine⟨.one ?_,.one ?_⟩
  ·refine(me _).trans ((me _).trans ((aG9 i _).trans ?_))
   rw[c4,ma];show _=((List.getD ns i 0:Nat):Int);rw[c4];cases ns[i]? <;>rfl
  ·exact(me _).trans ((cu (_+ ·) rfl).trans ((nh _).trans (aG9 i xs)))
 |k n=>exact⟨.one (qO ..),.one (qO ..)⟩
 |o c x y h g=>exact (by
  have A:∀ {x y:Int} (p q:Ln),ev xs ns p=x->ev xs ns q=y->ev xs ns (la p q)=x+y:=λp q e a=>by rw[aGz,e,a]
  have S:∀ {x y:Int} (p q:Ln),ev xs ns p=x->ev xs ns q=y->ev xs ns (ls p q)=x-y:=λp q e a=>by rw[sJ,e,a]
  have M:∀ (k:Int){x y:Int} (p q:Ln),ev xs ns p=x->ev xs ns q=y->ev xs ns (lm k p)=k*x:=λk b b p q e a=>by rw[aGy,e]
  cases c with
  |zero=>exact⟨h.1.aN A g.1,h.2.aN A g.2⟩
  |succ c=>cases c with
   |zero=>exact⟨Sa.aC (f:=λp q=>(ls p q,lk 0)) (λp q e a=>⟨λl=>(S p q e a).trans (Int.ofNat_sub (ot.mp l)).symm,λl=>(qO _ _ _).trans (cu Nat.cast (Nat.sub_eq_zero_of_le (ot.mp l)).symm)⟩) h.1 g.1,h.2.aN S g.2⟩
   |succ c=>cases c with
    |zero=>exact⟨h.1.aC (λp q e a=>⟨λl=>e.trans (cu Nat.cast (Nat.max_eq_left (ot.mp l)).symm),λl=>a.trans (cu Nat.cast (Nat.max_eq_right (ot.mp l)).symm)⟩) g.1,
      h.2.aC (λp q e a=>⟨λl=>e.trans (n4 l).symm,λl=>a.trans (mz l).symm⟩) g.2⟩
    |succ c=>cases c with
     |zero=>exact⟨h.1.aC (f:=λp q=>(q,p)) (λp q e a=>⟨λl=>a.trans (cu Nat.cast (Nat.min_eq_right (ot.mp l)).symm),λl=>e.trans (cu Nat.cast (qg (ot.mp l)).symm)⟩) g.1,
       h.2.aC (f:=λp q=>(q,p)) (λp q e a=>⟨λl=>a.trans (mc l).symm,λl=>e.trans (Int.min_eq_left l).symm⟩) g.2⟩
     |succ c=>cases c with
      |zero=>exact⟨h.2.aC (f:=λp q=>(p,lk 0)) (λp q e a=>⟨λl=>e.trans (Int.toNat_of_nonneg l).symm,λl=>(qO _ _ _).trans (cu Nat.cast (Int.toNat_of_nonpos l).symm)⟩) .zero,h.1⟩
      |succ c=>cases c with
       |zero=>exact⟨.zero,h.2.aN (λp q e a=>(M (-1) p q e a).trans (by rw[Int.neg_mul,Int.one_mul];rfl)) .zero⟩
       |succ c=>exact⟨h.1.aN (M _) .zero,h.2.aN (M _) .zero⟩)
def rL(a b:Al)(l:Ln->Ln->aq (aq Ln)):aq (aq Ln):=pr (λg p q=>(l p q).map (g++ ·)) a b
def dP(xs:aq Int)(ns:aq Nat)(t:T):Prop:=t.rec (λa=>fm) (λa=>fm) λc x y p q=>
 List.getD [(den xs ns x).1<=(den xs ns y).1,(den xs ns x).1=(den xs ns y).1,(den xs ns x).2<=(den xs ns y).2,(den xs ns x).2=(den xs ns y).2,¬p,p/\q,p\/q] c (p->q)
def cr(p q:aq (aq Ln)):aq (aq Ln):=p.flatMap λg=>q.map (g++ ·)
def aFm(p q:Ln):aq (aq Ln):=[[ls q p]]
def aFn(p q:Ln):aq (aq Ln):=[[ls (ls p q) (lk 1)]]
def aG3(p q:Ln):aq (aq Ln):=[[ls q p,ls p q]]
def aG4(p q:Ln):aq (aq Ln):=[[ls (ls p q) (lk 1)],[ls (ls q p) (lk 1)]]
def dn(t:T):aq (aq Ln)×aq (aq Ln):=t.rec (λa=>([],[[]])) (λa=>([],[[]])) λc x y p q=>
 List.getD [(rL (alt x).1 (alt y).1 aFm,rL (alt x).1 (alt y).1 aFn),(rL (alt x).1 (alt y).1 aG3,rL (alt x).1 (alt y).1 aG4),(rL (alt x).2 (alt y).2 aFm,rL (alt x).2 (alt y).2 aFn),
  (rL (alt x).2 (alt y).2 aG3,rL (alt x).2 (alt y).2 aG4),(p.2,p.1),(cr p.1 q.1,p.2++q.2),(p.1++q.1,cr p.2 q.2)] c (p.2++q.1,cr p.1 q.2)
theorem Sd.app{p q:aq (aq Ln)}(h:Sd xs ns p\/Sd xs ns q):Sd xs ns (p++q):=h.elim (fun⟨g,m,s⟩=>⟨g,List.mem_append_left _ m,s⟩) fun⟨g,m,s⟩=>⟨g,jx _ m,s⟩
theorem Sd.cr{p q:aq (aq Ln)}(h:Sd xs ns p)(k:Sd xs ns q):Sd xs ns (cr p q):=h.elim λg h=>k.elim λg' k=>⟨g++g',List.mem_flatMap.mpr ⟨g,h.1,gw.mpr ⟨g',k.1,rfl⟩⟩,h.2.app k.2⟩
theorem zV{a b:Al}{x y:Int}{l:Ln->Ln->aq (aq Ln)}(h:Sa xs ns a x)(g:Sa xs ns b y)(k:∀ p q,ev xs ns p=x->ev xs ns q=y->Sd xs ns (l p q)):Sd xs ns (rL a b l):=s6 h g λu v w s e c=>(k v w e c).elim λg h=>⟨_,gw.mpr ⟨g,h.1,rfl⟩,s.app h.2⟩
theorem aFc{x y:Int}{p q:Ln}(e:ev xs ns p=x)(a:ev xs ns q=y)(h:y<x):Sg xs ns [ls (ls p q) (lk 1)]:=λb m=>by rw[dc.mp m,sJ,sJ,qO,e,a];exact gx (Int.le_sub_left_of_add_le h)
theorem aFk{x y:Int}{p q:Ln}(e:ev xs ns p=x)(a:ev xs ns q=y)(h:y<=x):0<=ev xs ns (ls p q):=by rw[sJ,e,a];exact gx h
theorem aFj{a b:Al}{x y:Int}(h:Sa xs ns a x)(g:Sa xs ns b y):(x<=y->Sd xs ns (rL a b aFm))/\(¬x<=y->Sd xs ns (rL a b aFn)):=⟨λl=>zV h g λp q e c=>⟨_,.head _,λd m=>dc.mp m▸aFk c e l⟩,λl=>zV h g λp q e c=>⟨_,.head _,aFc e c (not_le.mp l)⟩⟩
theorem aG2{a b:Al}{x y:Int}(h:Sa xs ns a x)(g:Sa xs ns b y):(x=y->Sd xs ns (rL a b aG3))/\(¬x=y->Sd xs ns (rL a b aG4)):=⟨λl=>zV h g λp q e c=>⟨_,.head _,Sg.sn (λd m=>dc.mp m▸aFk c e (Int.le_of_eq l)) (aFk e c (Int.le_of_eq l.symm))⟩,
  λl=>zV h g λp q e c=>(Int.lt_or_gt_of_ne l).elim (λl=>⟨_,.tail _ (.head _),aFc c e l⟩) λl=>⟨_,.head _,aFc e c l⟩⟩
def ct(f:Nat):Nat->Nat×Nat:=f.rec (λs=>(0,s)) λq r s=>cond (beq (s%2) 0) (0,s/2) ((r (s/2)).1+1,(r (s/2)).2)
def sm(g:aq Ln):Nat->Ln×Nat:=g.rec (λs=>(lk 0,s)) λl q r s=>(la (lm ((ct 64 s).1:Nat) l) (r (ct 64 s).2).1,(r (ct 64 s).2).2)
def ng(b:Int->cw)(l:aq Int):cw:=l.rec be λc q r=>cond (b c) r aL
def gd(l:Ln):cw:=cond (decide (l.1<0)) (cond (ng (λc=>decide (c=0)) l.2.1) (ng (λc=>decide (c<=0)) l.2.2) aL) aL
def ck(d:aq (aq Ln)):Nat->cw:=d.rec (λq=>be) λg q r s=>cond (gd (sm g s).1) (r (sm g s).2) aL
theorem gC{a b:cw}(h:cond a b aL=be):a=be/\b=be:=by
 cases a with
 |true=>exact⟨rfl,h⟩
 |false=>exact ca h Bool.false_ne_true
theorem gd_no{l:Ln}(h:gd l=be): ¬0<=ev xs ns l:=λg=>
 ca (dt g (kx (Int.add_nonpos ((by
  intro l
  induction l with
  |nil=>exact λq q=>Int.le_refl _
  |cons c l a=>
   intro x e
   cases x with
   |nil=>exact Int.le_refl _
   |cons x xs=>exact Int.add_nonpos (Int.le_of_eq (cn (gC e).1▸Int.zero_mul x)) (a xs (gC e).2):∀{l:aq Int},∀ (x:aq Int),ng (λc=>decide (c=0)) l=be->dot l x<=0) xs (gC (gC h).2).1)
  ((by
   intro b l k
   induction l with
   |nil=>exact λq q q=>Int.le_refl _
   |cons c l a=>
    intro x h e
    cases x with
    |nil=>exact Int.le_refl _
    |cons x xs=>exact Int.add_nonpos (k c x (gC e).1 (h x (.head _))) (a xs (λy m=>h y (.tail _ m)) (gC e).2):∀{b:Int->cw}{l:aq Int}(k:∀ c x,b c=be->0<=x->c*x<=0),∀ (x:aq Int),(∀ y∈x,0<=y)->ng b l=be->dot l x<=0) (λc x e h=>Int.mul_nonpos_of_nonpos_of_nonneg (cn e) h) (ns.map Nat.cast) (λy m=>by obtain⟨n,_,e⟩:=gw.mp m;exact e▸eO n) (gC (gC h).2).2)) l.1))
  (not_le.mpr (by rw[nh];exact cn (gC h).1))
def lit(f:Nat):Nat->Nat×Nat:=f.rec (λs=>(0,s)) λq r s=>cond (ble 32 (s%64)) ((s%64-32)+32*(r (s/64)).1,(r (s/64)).2) (s%64,s/64)
def dec(f:Nat):Nat->T×Nat:=f.rec (λs=>(.v 0,s)) λq r s=>
 cond (ble 40 (s%64)) (cond (ble 61 (s%64)) ((lit 30 (s/64)).rec λn s'=>cond (ble (s%64) 61) (.k n,s') ((r s').rec λx s=>(.o (n+32) x x,s))) (.v (s%64-40),s/64))
  ((r (s/64)).rec λx s'=>(r s').rec λy s''=>(.o (s%64) x y,s''))
theorem R(k:Nat)(xs:aq Int)(ns:aq Nat)(h:dP xs ns (dec 99 k).1=P)(c:ck (dn (dec 99 k).1).2 (dec 99 k).2=be):P:=h▸Classical.not_not.mp λz=>(by
 intro d
 induction d with
 |nil=>exact λ_ ⟨_,m,_⟩=>ca m cx
 |cons g d a=>
  intro s h ⟨b,m,k⟩
  cases m with
  |head=>exact gd_no (gC h).1 ((by
   intro g
   induction g with
   |nil=>exact λs e=>Int.le_of_eq (qO xs ns 0).symm
   |cons l g a=>
    intro s h
    show 0<=ev xs ns (la (lm _ l) (sm g _).1)
    rw[aGz,aGy]
    exact px (Int.mul_nonneg (eO _) (h l (.head _))) (a _ λq m=>h q (.tail _ m)):∀{g:aq Ln},∀ (s:Nat),Sg xs ns g->0<=ev xs ns (sm g s).1) s k)
  |tail _ m=>exact a (gC h).2 ⟨b,m,k⟩:∀{d:aq (aq Ln)},∀ {s:Nat},ck d s=be->¬Sd xs ns d) c (((by
 intro t
 induction t with
 |v i=>exact⟨False.elim,λe=>⟨_,.head _,.nil⟩⟩
 |k n=>exact⟨False.elim,λe=>⟨_,.head _,.nil⟩⟩
 |o c x y h g=>
  have X:=aHv xs ns x
  have Y:=aHv xs ns y
  cases c with
  |zero=>exact⟨λl=>(aFj X.1 Y.1).1 (ot.mpr l),λl=>(aFj X.1 Y.1).2 λz=>l (ot.mp z)⟩
  |succ c=>cases c with
   |zero=>exact⟨λl=>(aG2 X.1 Y.1).1 (cu Nat.cast l),λl=>(aG2 X.1 Y.1).2 λz=>l (Int.ofNat.inj z)⟩
   |succ c=>cases c with
    |zero=>exact aFj X.2 Y.2
    |succ c=>cases c with
     |zero=>exact aG2 X.2 Y.2
     |succ c=>cases c with
      |zero=>exact⟨h.2,λl=>h.1 (Classical.not_not.mp l)⟩
      |succ c=>cases c with
       |zero=>exact⟨λl=>(h.1 l.1).cr (g.1 l.2),λl=>.app ((Classical.not_and_iff_not_or_not.mp l).imp h.2 g.2)⟩
       |succ c=>cases c with
        |zero=>exact⟨λl=>.app (l.imp h.1 g.1),λl=>(h.2 λz=>l (.inl z)).cr (g.2 λz=>l (.inr z))⟩
        |succ c=>exact⟨λl=>.app ((Classical.em _).elim (λz=>.inr (g.1 (l z))) λz=>.inl (h.2 z)),λl=>(h.1 (Classical.not_imp.mp l).1).cr (g.2 (Classical.not_imp.mp l).2)⟩:∀(t:T),(dP xs ns t->Sd xs ns (dn t).1)/\(¬dP xs ns t->Sd xs ns (dn t).2)) _).2 z)
end Z
theorem zzQ(k:Nat)(xs:aq Int)(ns:aq Nat){P:Prop}(e:(Z.dP xs ns (Z.dec 99 k).1,Z.ck (Z.dn (Z.dec 99 k).1).2 (Z.dec 99 k).2)=(P,be)):P:=Z.R k xs ns (cu Prod.fst e) (cu Prod.snd e)
theorem zzI(k:Nat)(xs:aq Int){P:Prop}(e:(Z.dP xs [] (Z.dec 99 k).1,Z.ck (Z.dn (Z.dec 99 k).1).2 (Z.dec 99 k).2)=((P),be)):P:=zzQ k xs [] e
theorem zzI0(k:Nat)(xs:aq Int){P:Prop}(e:(Z.dP xs [] (Z.dec 99 k).1,Z.ck (Z.dn (Z.dec 99 k).1).2 (Z.dec 99 k).2)=((P),be)):P:=zzQ k xs [] e
theorem zzI1(k:Nat)(xs:aq Int){A P:Prop}(e:(Z.dP xs [] (Z.dec 99 k).1,Z.ck (Z.dn (Z.dec 99 k).1).2 (Z.dec 99 k).2)=((A->P),be))(h0:A):P:=zzQ k xs [] e h0
theorem zzI2(k:Nat)(xs:aq Int){A B P:Prop}(e:(Z.dP xs [] (Z.dec 99 k).1,Z.ck (Z.dn (Z.dec 99 k).1).2 (Z.dec 99 k).2)=((A->B->P),be))(h0:A)(h1:B):P:=zzQ k xs [] e h0 h1
theorem zzI3(k:Nat)(xs:aq Int){A B D P:Prop}(e:(Z.dP xs [] (Z.dec 99 k).1,Z.ck (Z.dn (Z.dec 99 k).1).2 (Z.dec 99 k).2)=((A->B->D->P),be))(h0:A)(h1:B)(h2:D):P:=zzQ k xs [] e h0 h1 h2
theorem zzI4(k:Nat)(xs:aq Int){A B D E P:Prop}(e:(Z.dP xs [] (Z.dec 99 k).1,Z.ck (Z.dn (Z.dec 99 k).1).2 (Z.dec 99 k).2)=((A->B->D->E->P),be))(h0:A)(h1:B)(h2:D)(h3:E):P:=zzQ k xs [] e h0 h1 h2 h3
theorem zzI5(k:Nat)(xs:aq Int){A B D E F P:Prop}(e:(Z.dP xs [] (Z.dec 99 k).1,Z.ck (Z.dn (Z.dec 99 k).1).2 (Z.dec 99 k).2)=((A->B->D->E->F->P),be))(h0:A)(h1:B)(h2:D)(h3:E)(h4:F):P:=zzQ k xs [] e h0 h1 h2 h3 h4
theorem zzM(k:Nat)(ns:aq Nat){P:Prop}(e:(Z.dP [] ns (Z.dec 99 k).1,Z.ck (Z.dn (Z.dec 99 k).1).2 (Z.dec 99 k).2)=((P),be)):P:=zzQ k [] ns e
theorem zzM0(k:Nat)(ns:aq Nat){P:Prop}(e:(Z.dP [] ns (Z.dec 99 k).1,Z.ck (Z.dn (Z.dec 99 k).1).2 (Z.dec 99 k).2)=((P),be)):P:=zzQ k [] ns e
theorem zzM1(k:Nat)(ns:aq Nat){A P:Prop}(e:(Z.dP [] ns (Z.dec 99 k).1,Z.ck (Z.dn (Z.dec 99 k).1).2 (Z.dec 99 k).2)=((A->P),be))(h0:A):P:=zzQ k [] ns e h0
theorem zzM2(k:Nat)(ns:aq Nat){A B P:Prop}(e:(Z.dP [] ns (Z.dec 99 k).1,Z.ck (Z.dn (Z.dec 99 k).1).2 (Z.dec 99 k).2)=((A->B->P),be))(h0:A)(h1:B):P:=zzQ k [] ns e h0 h1
theorem zzM3(k:Nat)(ns:aq Nat){A B D P:Prop}(e:(Z.dP [] ns (Z.dec 99 k).1,Z.ck (Z.dn (Z.dec 99 k).1).2 (Z.dec 99 k).2)=((A->B->D->P),be))(h0:A)(h1:B)(h2:D):P:=zzQ k [] ns e h0 h1 h2
theorem zzM4(k:Nat)(ns:aq Nat){A B D E P:Prop}(e:(Z.dP [] ns (Z.dec 99 k).1,Z.ck (Z.dn (Z.dec 99 k).1).2 (Z.dec 99 k).2)=((A->B->D->E->P),be))(h0:A)(h1:B)(h2:D)(h3:E):P:=zzQ k [] ns e h0 h1 h2 h3
theorem zzR(k:Nat)(xs:aq Int)(ns:aq Nat){P:Prop}(e:(Z.dP xs ns (Z.dec 99 k).1,Z.ck (Z.dn (Z.dec 99 k).1).2 (Z.dec 99 k).2)=((P),be)):P:=zzQ k xs ns e
theorem xA{G:Prop}(h:p0/\p1)(k:p0->p1->G):G:=k h.1 h.2
theorem xE{p0:α->Prop}{G:Prop}(h:∃ a0:α,p0 a0)(k:∀ a0,p0 a0->G):G:=h.elim λa0 a=>k a0 a
theorem xAA{G:Prop}(h:p0/\p1/\p2)(k:p0->p1->p2->G):G:=k h.1 h.2.1 h.2.2
theorem xAE{p1:α->Prop}{G:Prop}(h:p0/\∃ a0:α,p1 a0)(k:p0->∀ a0,p1 a0->G):G:=h.2.elim λa0 a=>k h.1 a0 a
theorem xEA{p0 p1:α->Prop}{G:Prop}(h:∃ a0:α,p0 a0/\p1 a0)(k:∀ a0,p0 a0->p1 a0->G):G:=h.elim λa0 a=>k a0 a.1 a.2
theorem xEE{a:Sort _}{p0:α->a->Prop}{G:Prop}(h:∃ a0:α,∃ a1:a,p0 a0 a1)(k:∀ a0,∀ a1,p0 a0 a1->G):G:=h.elim λa0 b=>b.elim λa1 c=>k a0 a1 c
theorem xAAA{G:Prop}(h:p0/\p1/\p2/\p3)(k:p0->p1->p2->p3->G):G:=k h.1 h.2.1 h.2.2.1 h.2.2.2
theorem cU{p0 p1 p2:α->Prop}{G:Prop}(h:∃ a0:α,p0 a0/\p1 a0/\p2 a0)(k:∀ a0,p0 a0->p1 a0->p2 a0->G):G:=h.elim λa0 a=>k a0 a.1 a.2.1 a.2.2
theorem jB{a:Sort _}{p0 p1:α->a->Prop}{G:Prop}(h:∃ a0:α,∃ a1:a,p0 a0 a1/\p1 a0 a1)(k:∀ a0,∀ a1,p0 a0 a1->p1 a0 a1->G):G:=h.elim λa0 c=>c.elim λa1 b=>k a0 a1 b.1 b.2
theorem xF{a b:Sort _}{p0:α->a->b->Prop}{G:Prop}(h:∃ a0:α,∃ a1:a,∃ a2:b,p0 a0 a1 a2)(k:∀ a0,∀ a1,∀ a2,p0 a0 a1 a2->G):G:=h.elim λa0 c=>c.elim λa1 d=>d.elim λa2 e=>k a0 a1 a2 e
theorem xAAAA{G:Prop}(h:p0/\p1/\p2/\p3/\p4)(k:p0->p1->p2->p3->p4->G):G:=k h.1 h.2.1 h.2.2.1 h.2.2.2.1 h.2.2.2.2
theorem rZ{p2 p3:α->Prop}{G:Prop}(h:p0/\p1/\∃ a0:α,p2 a0/\p3 a0)(k:p0->p1->∀ a0,p2 a0->p3 a0->G):G:=h.2.2.elim λa0 a=>k h.1 h.2.1 a0 a.1 a.2
theorem xEAAA{p0 p1 p2 p3:α->Prop}{G:Prop}(h:∃ a0:α,p0 a0/\p1 a0/\p2 a0/\p3 a0)(k:∀ a0,p0 a0->p1 a0->p2 a0->p3 a0->G):G:=h.elim λa0 a=>k a0 a.1 a.2.1 a.2.2.1 a.2.2.2
theorem zH{b:Sort _}{p0 p1:α->Prop}{p2:α->b->Prop}{G:Prop}(h:∃ a0:α,p0 a0/\p1 a0/\∃ a1:b,p2 a0 a1)(k:∀ a0,p0 a0->p1 a0->∀ a1,p2 a0 a1->G):G:=h.elim λa0 a=>a.2.2.elim λa1 c=>k a0 a.1 a.2.1 a1 c
theorem aC6{a:Sort _}{p0:α->Prop}{p1 p2:α->a->Prop}{G:Prop}(h:∃ a0:α,p0 a0/\∃ a1:a,p1 a0 a1/\p2 a0 a1)(k:∀ a0,p0 a0->∀ a1,p1 a0 a1->p2 a0 a1->G):G:=h.elim λa0 b=>b.2.elim λa1 c=>k a0 b.1 a1 c.1 c.2
theorem bV{a:Sort _}{p0 p1 p2:α->a->Prop}{G:Prop}(h:∃ a0:α,∃ a1:a,p0 a0 a1/\p1 a0 a1/\p2 a0 a1)(k:∀ a0,∀ a1,p0 a0 a1->p1 a0 a1->p2 a0 a1->G):G:=h.elim λa0 c=>c.elim λa1 b=>k a0 a1 b.1 b.2.1 b.2.2
theorem iZ{a b:Sort _}{p0 p1:α->a->b->Prop}{G:Prop}(h:∃ a0:α,∃ a1:a,∃ a2:b,p0 a0 a1 a2/\p1 a0 a1 a2)(k:∀ a0,∀ a1,∀ a2,p0 a0 a1 a2->p1 a0 a1 a2->G):G:=h.elim λa0 d=>d.elim λa1 e=>e.elim λa2 c=>k a0 a1 a2 c.1 c.2
theorem xAAAEA{p3 p4:α->Prop}{G:Prop}(h:p0/\p1/\p2/\∃ a0:α,p3 a0/\p4 a0)(k:p0->p1->p2->∀ a0,p3 a0->p4 a0->G):G:=h.2.2.2.elim λa0 a=>k h.1 h.2.1 h.2.2.1 a0 a.1 a.2
theorem xG{p2 p3 p4:α->Prop}{G:Prop}(h:p0/\p1/\∃ a0:α,p2 a0/\p3 a0/\p4 a0)(k:p0->p1->∀ a0,p2 a0->p3 a0->p4 a0->G):G:=h.2.2.elim λa0 a=>k h.1 h.2.1 a0 a.1 a.2.1 a.2.2
theorem k7{a:Sort _}{p2 p3:α->a->Prop}{G:Prop}(h:p0/\p1/\∃ a0:α,∃ a1:a,p2 a0 a1/\p3 a0 a1)(k:p0->p1->∀ a0,∀ a1,p2 a0 a1->p3 a0 a1->G):G:=h.2.2.elim λa0 c=>c.elim λa1 b=>k h.1 h.2.1 a0 a1 b.1 b.2
theorem aC7{p0 p1 p2 p3 p4:α->Prop}{G:Prop}(h:∃ a0:α,p0 a0/\p1 a0/\p2 a0/\p3 a0/\p4 a0)(k:∀ a0,p0 a0->p1 a0->p2 a0->p3 a0->p4 a0->G):G:=h.elim λa0 a=>k a0 a.1 a.2.1 a.2.2.1 a.2.2.2.1 a.2.2.2.2
theorem xEEAAA{a:Sort _}{p0 p1 p2 p3:α->a->Prop}{G:Prop}(h:∃ a0:α,∃ a1:a,p0 a0 a1/\p1 a0 a1/\p2 a0 a1/\p3 a0 a1)(k:∀ a0,∀ a1,p0 a0 a1->p1 a0 a1->p2 a0 a1->p3 a0 a1->G):G:=h.elim λa0 c=>c.elim λa1 b=>k a0 a1 b.1 b.2.1 b.2.2.1 b.2.2.2
theorem dQ{a b:Sort _}{p0 p1 p2:α->a->b->Prop}{G:Prop}(h:∃ a0:α,∃ a1:a,∃ a2:b,p0 a0 a1 a2/\p1 a0 a1 a2/\p2 a0 a1 a2)(k:∀ a0,∀ a1,∀ a2,p0 a0 a1 a2->p1 a0 a1 a2->p2 a0 a1 a2->G):G:=h.elim λa0 d=>d.elim λa1 e=>e.elim λa2 c=>k a0 a1 a2 c.1 c.2.1 c.2.2
theorem pB{a b c:Sort _}{p0 p1:α->a->b->c->Prop}{G:Prop}(h:∃ a0:α,∃ a1:a,∃ a2:b,∃ a3:c,p0 a0 a1 a2 a3/\p1 a0 a1 a2 a3)(k:∀ a0,∀ a1,∀ a2,∀ a3,p0 a0 a1 a2 a3->p1 a0 a1 a2 a3->G):G:=h.elim λa0 e=>e.elim λa1 f=>f.elim λa2 g=>g.elim λa3 d=>k a0 a1 a2 a3 d.1 d.2
theorem aH1{a:Sort _}{p2:α->Prop}{p3 p4:α->a->Prop}{G:Prop}(h:p0/\p1/\∃ a0:α,p2 a0/\∃ a1:a,p3 a0 a1/\p4 a0 a1)(k:p0->p1->∀ a0,p2 a0->∀ a1,p3 a0 a1->p4 a0 a1->G):G:=h.2.2.elim λa0 b=>b.2.elim λa1 c=>k h.1 h.2.1 a0 b.1 a1 c.1 c.2
theorem sS{a b:Sort _}{p2 p3:α->a->b->Prop}{G:Prop}(h:p0/\p1/\∃ a0:α,∃ a1:a,∃ a2:b,p2 a0 a1 a2/\p3 a0 a1 a2)(k:p0->p1->∀ a0,∀ a1,∀ a2,p2 a0 a1 a2->p3 a0 a1 a2->G):G:=h.2.2.elim λa0 d=>d.elim λa1 e=>e.elim λa2 c=>k h.1 h.2.1 a0 a1 a2 c.1 c.2
theorem sR{p0 p1 p2 p3 p4 p5:α->Prop}{G:Prop}(h:∃ a0:α,p0 a0/\p1 a0/\p2 a0/\p3 a0/\p4 a0/\p5 a0)(k:∀ a0,p0 a0->p1 a0->p2 a0->p3 a0->p4 a0->p5 a0->G):G:=h.elim λa0 a=>k a0 a.1 a.2.1 a.2.2.1 a.2.2.2.1 a.2.2.2.2.1 a.2.2.2.2.2
theorem cN{a b:Sort _}{p0 p1 p2 p3:α->a->b->Prop}{G:Prop}(h:∃ a0:α,∃ a1:a,∃ a2:b,p0 a0 a1 a2/\p1 a0 a1 a2/\p2 a0 a1 a2/\p3 a0 a1 a2)(k:∀ a0,∀ a1,∀ a2,p0 a0 a1 a2->p1 a0 a1 a2->p2 a0 a1 a2->p3 a0 a1 a2->G):G:=h.elim λa0 d=>d.elim λa1 e=>e.elim λa2 c=>k a0 a1 a2 c.1 c.2.1 c.2.2.1 c.2.2.2
theorem oC{b a c:Sort _}{p0 p1 p2:α->b->a->c->Prop}{G:Prop}(h:∃ a0:α,∃ a1:b,∃ a2:a,∃ a3:c,p0 a0 a1 a2 a3/\p1 a0 a1 a2 a3/\p2 a0 a1 a2 a3)(k:∀ a0,∀ a1,∀ a2,∀ a3,p0 a0 a1 a2 a3->p1 a0 a1 a2 a3->p2 a0 a1 a2 a3->G):G:=h.elim λa0 e=>e.elim λa1 f=>f.elim λa2 g=>g.elim λa3 d=>k a0 a1 a2 a3 d.1 d.2.1 d.2.2
theorem pC{p3 p4 p5 p6:α->Prop}{G:Prop}(h:p0/\p1/\p2/\∃ a0:α,p3 a0/\p4 a0/\p5 a0/\p6 a0)(k:p0->p1->p2->∀ a0,p3 a0->p4 a0->p5 a0->p6 a0->G):G:=h.2.2.2.elim λa0 a=>k h.1 h.2.1 h.2.2.1 a0 a.1 a.2.1 a.2.2.1 a.2.2.2
theorem o9{b a c:Sort _}{p0 p1 p2 p3:α->b->a->c->Prop}{G:Prop}(h:∃ a0:α,∃ a1:b,∃ a2:a,∃ a3:c,p0 a0 a1 a2 a3/\p1 a0 a1 a2 a3/\p2 a0 a1 a2 a3/\p3 a0 a1 a2 a3)(k:∀ a0,∀ a1,∀ a2,∀ a3,p0 a0 a1 a2 a3->p1 a0 a1 a2 a3->p2 a0 a1 a2 a3->p3 a0 a1 a2 a3->G):G:=h.elim λa0 e=>e.elim λa1 f=>f.elim λa2 g=>g.elim λa3 d=>k a0 a1 a2 a3 d.1 d.2.1 d.2.2.1 d.2.2.2
theorem lO{d b e a c:Sort _}{p0 p1:α->d->b->e->a->c->Prop}{G:Prop}(h:∃ a0:α,∃ a1:d,∃ a2:b,∃ a3:e,∃ a4:a,∃ a5:c,p0 a0 a1 a2 a3 a4 a5/\p1 a0 a1 a2 a3 a4 a5)(k:∀ a0,∀ a1,∀ a2,∀ a3,∀ a4,∀ a5,p0 a0 a1 a2 a3 a4 a5->p1 a0 a1 a2 a3 a4 a5->G):G:=h.elim λa0 i=>i.elim λa1 j=>j.elim λa2 l=>l.elim λa3 m=>m.elim λa4 g=>g.elim λa5 f=>k a0 a1 a2 a3 a4 a5 f.1 f.2
theorem iA{c b d a:Sort _}{p2 p3 p4:α->c->b->d->a->Prop}{G:Prop}(h:p0/\p1/\∃ a0:α,∃ a1:c,∃ a2:b,∃ a3:d,∃ a4:a,p2 a0 a1 a2 a3 a4/\p3 a0 a1 a2 a3 a4/\p4 a0 a1 a2 a3 a4)(k:p0->p1->∀ a0,∀ a1,∀ a2,∀ a3,∀ a4,p2 a0 a1 a2 a3 a4->p3 a0 a1 a2 a3 a4->p4 a0 a1 a2 a3 a4->G):G:=h.2.2.elim λa0 f=>f.elim λa1 g=>g.elim λa2 i=>i.elim λa3 j=>j.elim λa4 e=>k h.1 h.2.1 a0 a1 a2 a3 a4 e.1 e.2.1 e.2.2
theorem u8{c b d a:Sort _}{p0 p1 p2 p3 p4 p5:α->c->b->d->a->Prop}{G:Prop}(h:∃ a0:α,∃ a1:c,∃ a2:b,∃ a3:d,∃ a4:a,p0 a0 a1 a2 a3 a4/\p1 a0 a1 a2 a3 a4/\p2 a0 a1 a2 a3 a4/\p3 a0 a1 a2 a3 a4/\p4 a0 a1 a2 a3 a4/\p5 a0 a1 a2 a3 a4)(k:∀ a0,∀ a1,∀ a2,∀ a3,∀ a4,p0 a0 a1 a2 a3 a4->p1 a0 a1 a2 a3 a4->p2 a0 a1 a2 a3 a4->p3 a0 a1 a2 a3 a4->p4 a0 a1 a2 a3 a4->p5 a0 a1 a2 a3 a4->G):G:=h.elim λa0 f=>f.elim λa1 g=>g.elim λa2 i=>i.elim λa3 j=>j.elim λa4 e=>k a0 a1 a2 a3 a4 e.1 e.2.1 e.2.2.1 e.2.2.2.1 e.2.2.2.2.1 e.2.2.2.2.2
theorem hY{b a c:Sort _}{p0 p1 p2 p3 p4 p5 p6 p7:α->b->a->c->Prop}{G:Prop}(h:∃ a0:α,∃ a1:b,∃ a2:a,∃ a3:c,p0 a0 a1 a2 a3/\p1 a0 a1 a2 a3/\p2 a0 a1 a2 a3/\p3 a0 a1 a2 a3/\p4 a0 a1 a2 a3/\p5 a0 a1 a2 a3/\p6 a0 a1 a2 a3/\p7 a0 a1 a2 a3)(k:∀ a0,∀ a1,∀ a2,∀ a3,p0 a0 a1 a2 a3->p1 a0 a1 a2 a3->p2 a0 a1 a2 a3->p3 a0 a1 a2 a3->p4 a0 a1 a2 a3->p5 a0 a1 a2 a3->p6 a0 a1 a2 a3->p7 a0 a1 a2 a3->G):G:=h.elim λa0 e=>e.elim λa1 f=>f.elim λa2 g=>g.elim λa3 d=>k a0 a1 a2 a3 d.1 d.2.1 d.2.2.1 d.2.2.2.1 d.2.2.2.2.1 d.2.2.2.2.2.1 d.2.2.2.2.2.2.1 d.2.2.2.2.2.2.2
theorem gR{f d n j e m o l κ g i:Sort _}{p0:α->f->d->n->j->e->m->o->l->κ->g->i->Prop}{G:Prop}(h:∃ a0:α,∃ a1:f,∃ a2:d,∃ a3:n,∃ a4:j,∃ a5:e,∃ a6:m,∃ a7:o,∃ a8:l,∃ a9:κ,∃ a10:g,∃ a11:i,p0 a0 a1 a2 a3 a4 a5 a6 a7 a8 a9 a10 a11)(k:∀ a0,∀ a1,∀ a2,∀ a3,∀ a4,∀ a5,∀ a6,∀ a7,∀ a8,∀ a9,∀ a10,∀ a11,p0 a0 a1 a2 a3 a4 a5 a6 a7 a8 a9 a10 a11->G):G:=h.elim λa0 r=>r.elim λa1 v=>v.elim λa2 w=>w.elim λa3 t=>t.elim λa4 p=>p.elim λa5 q=>q.elim λa6 u=>u.elim λa7 x=>x.elim λa8 s=>s.elim λa9 a=>a.elim λa10 c=>c.elim λa11 b=>k a0 a1 a2 a3 a4 a5 a6 a7 a8 a9 a10 a11 b
theorem A2:m<100->m<=16777216:=zzM 0x150820820f6800393d07da00007 [m] ⋯
theorem A3:m<1000000->m<=16777216:=zzM 0x150820820f6801ec3283d07da00007 [m] ⋯
theorem A4:m+n<1000000->p=m->q=n->p+q<=16777216:=zzM 0x4950820820f6ba80029ac11e8a811dec3283d07da68000007 [m,n,p,q] ⋯
theorem A5:(((0:Int)<=a+((m:Nat):Int))/\(a+((m:Nat):Int)<((m:Nat):Int)))->(a<0)/\((-((m:Nat):Int)<=a)/\((Int.toNat (a+((m:Nat):Int))=Int.toNat (a+((m:Nat):Int)))/\(Int.toNat (a+((m:Nat):Int))<m))):=zzR 0x254904122142a10412aa01f68a28128004000a28a04a00128a28128004045a28a2810508503d07da00085a28101f68a04a00002a28128000f42147 [a] [m] ⋯
theorem A6:(((0:Int)<=a)/\(a<((m:Nat):Int)))->((0:Int)<=a)/\((Int.toNat a=Int.toNat a)/\(Int.toNat a<m)):=zzR 0x4a9208245091420826807da28100028a04a2810116803d085a28101f68002a00f42147 [a] [m] ⋯
theorem A7:m=n-> -((n:Nat):Int)<=a-> -((m:Nat):Int)<=a:=zzR 0xaa8a28a04142a28a29105087a68047 [a] [m,n] ⋯
theorem A10:((-1000000):Int)<a->b<1000000->Int.toNat (b-a)<2000000:=zzI 0x10941f61920f41f68a290440007b0ca0f41f690021e807da1ec3283d140087 [a,b] ⋯
theorem A11:a<1000000->((-1000000):Int)<b->Int.toNat (b-a)<2000000->((((((-9223372036854775808):Int)<=a)/\(a<9223372036854775808))/\((((-9223372036854775808):Int)<=b)/\(b<9223372036854775808)))/\((((-9223372036854775808):Int)<=max (b-a) 0)/\(max (b-a) 0<9223372036854775808)))/\((max (b-a) 0=0)\/((((-9223372036854775808):Int)<=b)/\(b<9223372036854775808))):=zzI 0x10101010140a04422204440a092890a5101010101108888a090242044514485488820820820820820820f41f69002a6822082082082082082083d142140f40f68a41083188820820820820820820f41f40f68a41080080f68a410a822082082082082082083d142148820820820820820820f41f69002a6822082082082082082083d142148820820820820820820f41f68002a2822082082082082082083d14214514507d86483d07da28a41100007a41f687b0ca0f450021dec3283d07da00087 [a,b] ⋯
theorem A30:m+(10*(n+1))<=700->m+1+(10*n)<=700:=zzM 0x155f3da4af81f68000015f3d07da402bea00007 [m,n] ⋯
theorem A32:m+1<=n->m<=n:=zzM 0x5a6802907da00007 [m,n] ⋯
theorem A33:m=n->n<1000000->m<=16777216:=zzM 0xa50820820f6801ec3283d07da40007a68047 [m,n] ⋯
theorem A34:m+(10*(n+1))<=700->m+0+1+(10*n)<=700:=zzM 0x557cf692be07d03da00000015f3d07da402bea00007 [m,n] ⋯
theorem A35:m+(40*(n+1))<=8000->m+0+3+(40*n)<=8000:=zzM 0x51fa83da41a3e0fd03da00000007ea0f41f69001a3ea00007 [m,n] ⋯
theorem A40:m+2<=n->p+(10*n)<=700->p+(10*(m+2))<=700:=zzM 0xaffd5f3d0bda002bea80015f3da4afaa0001e90bda00007 [m,n,p] ⋯
theorem A41:m+2<=n->p+(40*n)<=8000->p+(40*(m+2))<=8000:=zzM 0x2bfffffffffc7ea0f42f68001a3ea80007ea0f69068faa0001e90bda00007 [m,n,p] ⋯
theorem A45:((m:Nat):Int)<a->¬(a<=((m:Nat):Int)):=zzR 0x5a28a04a0212807da28100087 [a] [m] ⋯
theorem A46:m+1<=n->p+(10*n)<=700->p+(10*m)<=700:=zzM 0x2bff57cf682bea80015f3da4afaa0001e907da00007 [m,n,p] ⋯
theorem A47:m+1<=n->p+(40*n)<=8000->p+1+(40*m)<=8000:=zzM 0x2bfffffffffc7ea0f68068f81f6a000007ea0f69068faa0001e907da00007 [m,n,p] ⋯
theorem A48:m=n->n<64->m<=16777216:=zzM 0xa50820820f6800283d07da40007a68047 [m,n] ⋯
theorem A53:m<n->n<p->m<p:=zzM 0x15a81f68000a81f690001e907da00007 [m,n,p] ⋯
theorem A63:m<n+1->n<=m->m=n:=zzM 0x5269a01a2900707da4007da00007 [m,n] ⋯
theorem A64:m<n-1->n-1<n:=zzM 0x908a2907d07da4100007da4107da00007 [m,n] ⋯
theorem A65:m<n->n-1<=m->m=n-1:=zzM 0x4145121414522107da41a01a01f690401e907da00007 [m,n] ⋯
theorem A66:m+(n+1)<=p->m<p:=zzM 0x16a07da0002a07da40a00007 [m,n,p] ⋯
theorem A67:m+(n+1)<=p->m-1<p:=zzM 0x129a81f41f6804002a07da40a00007 [m,n,p] ⋯
theorem A68:(1:Nat)<=m->m=m-1->fm:=zzM 0x492807da01a011e807d007 [m] ⋯
theorem A69:m<=m+(n+1):=zzM 0x107da40a00a00 [m,n] ⋯
theorem A70:(1:Nat)<=m+1:=zzM 0x41f68001f40 [m] ⋯
theorem A71:m+(n+1)<=p->m+1+n<=p:=zzM 0x16aa41f6800002a07da40a00007 [m,n,p] ⋯
theorem A72:(1:Nat)<=m->¬(m=m-1):=zzM 0x492807da01a0112807d007 [m] ⋯
theorem A73:m<=n+1+p->m<=n+(p+1):=zzM 0x141f6a02902802a07da40028007 [m,n,p] ⋯
theorem A76:(1:Nat)<=m->m-1=m->fm:=zzM 0x8a28a01f680411e807d007 [m] ⋯
theorem A81:m<n->n<1->fm:=zzM 0x5a01f41f690001e907da00007 [m,n] ⋯
theorem A83:m<=1+(n-1)->(1:Nat)<m->(0:Nat)<n:=zzM 0xa46907d03d000a01f41f4000707da4107d028007 [m,n] ⋯
theorem A84:m<=1+(n-1)->(1:Nat)<m->m-1<n:=zzM 0xa0a428a907d07da01000a01f41f4000707da4107d028007 [m,n] ⋯
theorem A85:(1:Nat)<m->(0:Nat)=m-1->fm:=zzM 0x546807da0103d047a01f41f40007 [m] ⋯
theorem A96:(1:Nat)<=m->¬((1:Nat)=m)->n<=2+(m-(1+1))->n<=m:=zzM 0xa4a02a8a29001f41f40a010bd029007a2807d0441e807d007 [m,n] ⋯
theorem A101:m<=n->n<=p->m<=p:=zzM 0x56aa00aa9007a68007 [m,n,p] ⋯
theorem A104:m<=n->n-(n-m)=m:=zzM 0x2942292884228a29069041a68007 [m,n] ⋯
theorem A106:m+(n+1)=p->m<p:=zzM 0x26a07da0002a07da40a00047 [m,n,p] ⋯
theorem A109:m+(n+1)=p->m+1+n=p:=zzM 0x526aa41f6800006a07da40a00047 [m,n,p] ⋯
theorem A118:m<n->n=p->m<p:=zzM 0x96a07da0002aa411e907da00007 [m,n,p] ⋯
theorem A119:m<n->¬(m=p)->(¬((p<m)/\(m<=q)))->((p<n)/\(n<=q))->m<p:=zzM 0x24a11242aa07da0002ba40a41f6a000147a2ba00a01f6a0001441e8aa80441e907da00007 [m,n,p,q] ⋯
theorem A123:(1:Nat)<=m->max m 1=m:=zzM 0x52512807da0206807d007 [m] ⋯
theorem A125:m<=n->¬(m<n)->m=n:=zzM 0x149a68068a41f68000107a68007 [m,n] ⋯
theorem A126:a<b->b<a->fm:=zzI 0x168a01f690021e907da00087 [a,b] ⋯
theorem A128:a<=b+1->a<=b-0+1:=zzI 0x507d03da41028081f69028087 [a,b] ⋯
theorem A129:a-(b+1)=a-1-b:=zzI 0x16907da01041f69028043 [a,b] ⋯
theorem A130:a=b->c-1-b+1+a=c:=zzI 0x526aa01f6907da81040003a680c7 [a,b,c] ⋯
theorem A131:a-1-b+1+c=a->d-1-b+1+c=d:=zzI 0x526ba81f6907dac1040003a2a07da41f680410000c7 [a,b,c,d] ⋯
theorem A132:a<b+1->¬(a=b)->a<b:=zzI 0x145a41f68002a29a0310707da4007da00087 [a,b] ⋯
theorem A135:a+b=c+1->a+(b-1-d)=c-d:=zzI 0x526ba81ac1f69041a000c1f6a029a000c7 [a,b,c,d] ⋯
theorem A136:a<b->c+(b-1-a)=d-a->e<=c->e<=d-a:=zzI 0x2968ac1b02aac087a2b06807da4106a0031e907da00087 [a,b,c,d,e] ⋯
theorem A137:a<=b->a+0<=b:=zzI 0x5a40f68002a68087 [a,b] ⋯
theorem A140:((a+b<=c)\/((a+b=c+1)/\(d+b<=e)))->(¬((a+b<=c)\/((a+b=c+1)/\(d+b<=f))))->a+(b-1)=c:=zzI 0x484148284821145145145a81f69068003a2da6b00207da80a6800316aa680021841eca6b00207da80a6800316aa68002187 [a,b,c,d,e,f] ⋯
theorem A145:a<b->a-c+1+c<=b:=zzI 0x169a81f6aa010000a907da00087 [a,b,c] ⋯
theorem A146:(0:Int)<a->a=0->fm:=zzI 0x5a00f680c7a01f40f40087 [a] ⋯
theorem A159:a<=b->a<=b-1+1:=zzI 0x141f41f69040a02a68087 [a,b] ⋯
theorem A162:a+((0:Nat):Int)=b->a=b:=zzI 0x149a680e9a00f44a000c7 [a,b] ⋯
theorem A163:a+((m+1:Nat):Int)=b->a<b:=zzR 0x26907da000a9a01f68004a000c7 [a,b] [m] ⋯
theorem A164:a+((m+1:Nat):Int)=b->a+1+((m:Nat):Int)=b:=zzR 0x5269a28101f680000e9a01f68004a000c7 [a,b] [m] ⋯
theorem A166:a<((m:Nat):Int)->m<1000000->a<1000000:=zzR 0x157b0ca0f41f680027b0ca0f41f680001e8a0407da00087 [a] [m] ⋯
theorem A167:a<=b->b+1+((m:Nat):Int)<=((n:Nat):Int)->a+((m+1:Nat):Int)<=((n:Nat):Int):=zzR 0x568a44a01f68004a000a8a44a28101f69000087a68087 [a,b] [m,n] ⋯
theorem A169:a<b->a<=b-1:=zzI 0x141f690680a907da00087 [a,b] ⋯
theorem A170:a+b<=c->a-1+(b+1)<=c:=zzI 0x16a07da4007da01002aa9a00087 [a,b,c] ⋯
theorem A171:(0:Int)<=a->(0:Int)<=a+1:=zzI 0x507da0003d0a803d087 [a] ⋯
theorem A172:(0:Int)<=a->(0:Int)<a+1:=zzI 0x141f68001f40f400a803d087 [a] ⋯
theorem A175:a-1+b=a+(b-1):=zzI 0x141f6906802907da01003 [a,b] ⋯
theorem A176:a<=b->a<=b:=zzI 0x169a02a68087 [a,b] ⋯
theorem A177:a+b<c->a+(b+1)<=c:=zzI 0x16a07da40a000aa07da68000087 [a,b,c] ⋯
theorem A178:(0:Int)<=a->a<b->(0:Int)<=b-1:=zzI 0x541f69040f42a41f680021e803d087 [a,b] ⋯
theorem A179:a+b<=c->(0:Int)<=b->c<=((m:Nat):Int)->a-1<((m:Nat):Int):=zzR 0x55a28101f41f680400a8a04a821e903d087aa9a00087 [a,b,c] [m] ⋯
theorem A180:a<=b->(0:Int)<=c->(0:Int)<=a->(0:Int)<=b+c:=zzI 0x55aa9000f42a00f421ea03d087a68087 [a,b,c] ⋯
theorem A181:a<=((m:Nat):Int)->b+c<a->b+c<((m:Nat):Int):=zzR 0x568a0407daa90000a807daa9000087a28128087 [a,b,c] [m] ⋯
theorem A183:(0:Int)<a->b<=c->c+a<=d->m<=2*(Int.toNat (c-b))+1+n->p<=2*(Int.toNat (d-(c+a)))+1+m->q=2*(Int.toNat (d-b))+1+n->p+1<=q:=zzR 0x20aa8936c20aa891b0852a24cc214a890eb07da8002907da29ac1102f8002b047a01f68a2a02b0440be000a801e907da29a81102f80028007ae8a80087aa9087a01f40f40087 [a,b,c,d] [m,n,p,q] ⋯
theorem A184:m+n<=1000->p<=n->p<1000000:=zzM 0x157b0ca0f41f6a000a6a0077e8f69a00007 [m,n,p] ⋯
theorem A185:m<=n->(1:Nat)<=p->m=p+q->q<n:=zzM 0x296907dac002ba80a011ea07d007a68007 [m,n,p,q] ⋯
theorem A186:m+n<=1000->n=p+q->m+q<=1000:=zzM 0xa5fa3dae8000aea0290477e8f69a00007 [m,n,p,q] ⋯
theorem A187: ¬(a=0)->(0:Int)<=a->(0:Int)<a:=zzI 0x2a6807d03d002a00f421e803da03107 [a] ⋯
theorem A189:m+n<=1000->p+1<=n->m+1+p<=1000:=zzM 0x55fa3da81f6800002907da800077e8f69a00007 [m,n,p] ⋯
theorem A190:m+(n+1)<=1000->m+n<=1000:=zzM 0x57e8f69a0001fa3d07da40a00007 [m,n] ⋯
theorem A191:m+(n+1)<=1000->m<1000000:=zzM 0x15ec3283d07da0001fa3d07da40a00007 [m,n] ⋯
theorem A192:m+(n+1)<=1000->m+1+n<=1000:=zzM 0x15fa3da41f6800001fa3d07da40a00007 [m,n] ⋯
theorem A193:m+0<=1000->m<999999:=zzM 0x15ec31ffd07da0001fa3d03da00007 [m] ⋯
theorem A194:m+n<=1000->p<=1->q=m+p->q+1<1000000:=zzM 0x957b0ca0f41f41f6b00002aa00ac11c1f6a0077e8f69a00007 [m,n,p,q] ⋯
theorem A198:m+(2*(n+1))<=100000->p<=1->q<=1->m+(p+q)+(2*n)<=100000:=zzM 0x550e1d60f690beaea028000001f6b00707da801c387583d07da400bea00007 [m,n,p,q] ⋯
theorem A199:m<=2*n->p<=1->q<=1->p+(q+m)<=2*(n+1):=zzM 0x5507da400bea2b02a00007dac01c1f6a007a42fa8007 [m,n,p,q] ⋯
theorem A201:a<=b->b+c+((m:Nat):Int)<=((n:Nat):Int)->(0:Int)<c->a+((m+1:Nat):Int)<=((n:Nat):Int):=zzR 0x55a2912807da00128002a81f40f40087a29128a04aa9000087a68087 [a,b,c] [m,n] ⋯
theorem A202:0+((m:Nat):Int)<=((n:Nat):Int)->m<=n:=zzM 0x5a68028a44a28100f40087 [m,n] ⋯
theorem A205:m+0<=1000->m<1000000:=zzM 0x15ec3283d07da0001fa3d03da00007 [m] ⋯
theorem A211:(-1)+((m+1:Nat):Int)=((m:Nat):Int):=zzM 0x168a04a01f68004a01f45003 [m] ⋯
theorem A216:a=0->a=((m:Nat):Int)->m=0:=zzR 0x41440f68068a04a031c0f680c7 [a] [m] ⋯
theorem A217:a=((m:Nat):Int)->a=((n:Nat):Int)->m=n:=zzR 0x1452a9a01a291280c7a281280c7 [a] [m,n] ⋯
theorem A218:a=((m:Nat):Int)->n<m->((n:Nat):Int)<a:=zzR 0xaa807da291000a807da40007a281280c7 [a] [m,n] ⋯
theorem A224:(0:Int)<a->b+a=((m:Nat):Int)->b<=((m:Nat):Int):=zzR 0x968a04a42a28128a400c7a01f40f40087 [a,b] [m] ⋯
theorem A225:(0:Int)<a->b+a<=c->((c<=((m:Nat):Int))/\(d<=((n:Nat):Int)))->b<=((m:Nat):Int):=zzR 0x2568a04a42a2912b0a8a04a82147aa8a40087a01f40f40087 [a,b,c,d] [m,n] ⋯
theorem A226:(0:Int)<a->b+a<=c->((d<=((m:Nat):Int))/\(c<=((n:Nat):Int)))->b<=((n:Nat):Int):=zzR 0x2968a44a42a2912a0a8a04ac2147aa8a40087a01f40f40087 [a,b,c,d] [m,n] ⋯
theorem A227:(0:Int)<a->b+a<=c->(0:Int)<=b->(0:Int)<=c:=zzI 0x156a03d0a903d087aa8a40087a01f40f40087 [a,b,c] ⋯
theorem A230:(0:Int)<=a->Int.toNat (a+((m:Nat):Int))=Int.toNat a+m:=zzR 0x12a125115108a28a04028a2812800406803d087 [a] [m] ⋯
theorem A231:((m:Nat):Int)=a+b-a->((n:Nat):Int)=c+b-c->m=n:=zzR 0x129469a01aa9a80068a440c7a29a00068a040c7 [a,b,c] [m,n] ⋯
theorem A232:((m:Nat):Int)=a+b-a->n<m->((n:Nat):Int)<b:=zzR 0xa6907da291000a807da40007a29a00068a040c7 [a,b] [m,n] ⋯
theorem A233:(0:Int)<=a->a+b<=((m:Nat):Int)->((n:Nat):Int)<b->Int.toNat a+n<m:=zzR 0x954aa01f69a28100000a41f68a440021e8a04a680021e803d087 [a,b] [m,n] ⋯
theorem A234:a+(min b c)+(b-(min b c))=a+b:=zzI 0x11149525129a00aa90e906aa43a00003 [a,b,c] ⋯
theorem A235:(0:Int)<a->b+b<a->b<=a:=zzI 0x35a290a807da69000087a01f40f40087 [a,b] ⋯
theorem A236:a+a<b->(0:Int)<b-a-a:=zzI 0x5a28a41041f40f400a907da28000087 [a,b] ⋯
theorem A258:m<100000->m<1000000:=zzM 0x15ec3283d07da0000387583d07da00007 [m] ⋯
theorem A264:((-1000000):Int)<((m:Nat):Int):=zzM 0x1a28101f687b0ca0f45002 [m] ⋯
theorem A265:m<100000->n<m->((n:Nat):Int)<1000000:=zzM 0x157b0ca0f41f68a44002a01f690001c387583d07da00007 [m,n] ⋯
theorem A266:m<n->((m:Nat):Int)<((n:Nat):Int):=zzM 0x168a4407da281000a907da00007 [m,n] ⋯
theorem A273:m<=24->n<=m->n<1000000:=zzM 0x55ec3283d07da40028a401d8f68007 [m,n] ⋯
theorem A274:m<=24->n<=m->n<=24:=zzM 0x558f69028a401d8f68007 [m,n] ⋯
theorem A309:m<64->n<=p+1->p<=m->q<=2*(n+1)->q<=200:=zzM 0xadb1a8f6b001f69002fab007a2a00707da80a401c283d07da00007 [m,n,p,q] ⋯
inductive V where
 |none |bool (b:cw) |int (i:Int) |str (s:Str)
 |tup (vs:aq V) |mat (i j k:Int)
 |ref (n:Nat) |dget (n:Nat) |scon (n:Nat) |rng (a b c:Int) |raw (a:dw)
 deriving Inhabited
def V.ctorIdx(v:V):Nat:=v.casesOn 0 (λ_=>1) (λ_=>2) (λ_=>3) (λ_=>4) (λ_ _ _=>5) (λ_=>6) (λ_=>7) (λ_=>8) (λ_ _ _=>9) λ_=>10
end
variable{env:Env}{a b:aq Int}
inductive Gn where
 |fresh (lo:Str->bn V)
 |loop (it:Nat) (lo:Str->bn V)
 |last (lo:Str->bn V)
 |run
 |fin
 deriving Inhabited
inductive MO where
 |list (vs:aq V) |ro (vs:aq V)
 |dict (n:Nat) (f:Int->bn V) |eset
 |inst (fs:Str->bn V)
 |gen (g:Gn)
 |itr (o:bn (Nat×Nat))
 deriving Inhabited
def MO.ctorIdx(v:MO):Nat:=v.casesOn (λ_=>0) (λ_=>1) (λ_ _=>2) 3 (λ_=>4) (λ_=>5) λ_=>6
noncomputable abbrev MH:=aq MO
variable{H:MH}
structure Lc where
 a:dw
 d:dw
 g:bn Nat:=none
def Lc.has(l:Lc)(b:dw):Prop:=b=l.a\/b=l.d
def Own(ρ:aq Lc)(b:dw):Prop:=∃ l∈ρ,l.has b
def aZ(o:Obj):Prop:=match o.data with
 | .seq _ _=>o.cls≠ .type "list"
 | .fields _=>o.cls= .type "builtin_function_or_method" \/o.cls= .type "range"
 |_=>fm
def Imm(h h':jy):Prop:=∀ b o,h.get? b=ao o->aZ o->h'.get? b=ao o
theorem Imm.refl(h:jy):Imm h h:=λq q e q=>e
theorem Imm.trans(a:Imm c d)(b:Imm d f):Imm c f:=λx o e i=>b x o (a x o e i) i
noncomputable abbrev aF:dw:=135
noncomputable abbrev d4:dw:=242
mutual
inductive VR(ρ:aq Lc)(h:jy):bz->V->Prop
 |none:VR ρ h .none .none
 |bool (b:_):VR ρ h (.bool b) (.bool b)
 |int (i t:_):VR ρ h (.int i t) (.int i)
 |str (s t:_):VR ρ h (.str s t) (.str s)
 |tup {a xs n vs:_}:h.get? a=ao {cls:=.type "tuple",data:=.seq xs n}->VRs ρ h xs.toList vs->VR ρ h (.ref a) (.tup vs)
 |mat {a n i j k t u v dd:_}:h.get? a=ao {cls:=.ref aF,dict:=dd,data:=.seq #[.int i t,.int j u,.int k v] n}->VR ρ h (.ref a) (.mat i j k)
 |ref {n l:_}:ρ[n]? =ao l->VR ρ h (.ref l.a) (.ref n)
 |dget {a n l:_}:ρ[n]? =ao l->h.get? a=ao {cls:=.type "builtin_function_or_method",data:=.fields #[.builtin "dict.get",.ref l.a]}->VR ρ h (.ref a) (.dget n)
 |scon {a n l:_}:ρ[n]? =ao l->h.get? a=ao {cls:=.type "builtin_function_or_method",data:=.fields #[.builtin "set.__contains__",.ref l.a]}->VR ρ h (.ref a) (.scon n)
 |rng {a i j k t u v:_}:IsRange h a i j k t u v->VR ρ h (.ref a) (.rng i j k)
 |raw (a:_):VR ρ h (.ref a) (.raw a)
inductive VRs(ρ:aq Lc)(h:jy):aq bz->aq V->Prop
 |nil:VRs ρ h [] []
 |cons {u us v vs:_}:VR ρ h u v->VRs ρ h us vs->VRs ρ h (u::us) (v::vs)
end
theorem aM{α:Type}{a:α}{P:Prop}(e:none=ao a):P:=nomatch e
def VRI(ρ:aq Lc)(h:jy)(x:bz):V->Prop
 | .none=>x= .none
 | .bool b=>x= .bool b
 | .int i=>∃ t,x= .int i t
 | .str s=>∃ t,x= .str s t
 | .tup vs=>∃ a xs n,x= .ref a/\h.get? a=ao {cls:=.type "tuple",data:=.seq xs n}/\VRs ρ h xs.toList vs
 | .mat i j k=>∃ a n t u v dd,x= .ref a/\h.get? a=ao {cls:=.ref aF,dict:=dd,data:=.seq #[.int i t,.int j u,.int k v] n}
 | .ref n=>∃ l,x= .ref l.a/\ρ[n]? =ao l
 | .dget n=>∃ a l,x= .ref a/\ρ[n]? =ao l/\h.get? a=ao {cls:=.type "builtin_function_or_method",data:=.fields #[.builtin "dict.get",.ref l.a]}
 | .scon n=>∃ a l,x= .ref a/\ρ[n]? =ao l/\h.get? a=ao {cls:=.type "builtin_function_or_method",data:=.fields #[.builtin "set.__contains__",.ref l.a]}
 | .rng i j k=>∃ a t u v,x= .ref a/\IsRange h a i j k t u v
 | .raw a=>x= .ref a
theorem VR.inv(r:VR ρ h u v):VRI ρ h u v:=by
 cases r with
 |none=>exact rfl
 |bool=>exact rfl
 |int i t=>exact⟨t,rfl⟩
 |str s t=>exact⟨t,rfl⟩
 |tup g rs=>exact⟨_,_,_,rfl,g,rs⟩
 |mat g=>exact⟨_,_,_,_,_,_,rfl,g⟩
 |ref g=>exact⟨_,rfl,g⟩
 |dget g a=>exact⟨_,_,rfl,g,a⟩
 |scon g a=>exact⟨_,_,rfl,g,a⟩
 |rng g=>exact⟨_,_,_,_,rfl,g⟩
 |raw=>exact rfl
theorem aT{a:aq Lc}(e:ρ<+:a){n:Nat}(h:ρ[n]? =ao l):a[n]? =ao l:=by
 refine xE e λt b=>?_;subst b
 exact rwL (List.getElem?_append_left (List.getElem?_eq_some_iff.mp h).1) h
theorem VR.mono(e:ρ<+:c)(i:Imm h h')(r:VR ρ h u v):VR c h' u v:=by
 refine VR.rec (motive_2:=λus vs q=>VRs c h' us vs) .none .bool .int .str ?_ ?_ ?_ ?_ ?_ ?_ .raw .nil ?_ r
 ·intro a j n vs g _ f;exact .tup (i _ _ g (by simp [aZ])) f
 ·intro a n x y z t u v k g;exact .mat (i _ _ g (by simp [aZ]))
 ·intro n l g;exact .ref (aT e g)
 ·intro a n l g d;exact .dget (aT e g) (i _ _ d (by simp [aZ]))
 ·intro a n l g d;exact .scon (aT e g) (i _ _ d (by simp [aZ]))
 ·intro a x y z t u v g;exact .rng (i _ _ g (by simp [aZ]))
 ·intro u us v vs _ _ a b;exact .cons a b
theorem VRs.ind{P:aq bz->aq V->Prop}(n:P [] [])(c:∀ {u d v vs},VR ρ h u v->VRs ρ h d vs->P d vs->P (u::d) (v::vs))(r:VRs ρ h d vs):P d vs:=VRs.rec (motive_1:=λq q q=>s7) trivial (λq=>trivial) (λq q=>trivial) (λq q=>trivial) (λq q q=>trivial) (λq=>trivial) (λq=>trivial) (λq q=>trivial) (λq q=>trivial) (λq=>trivial) (λq=>trivial) n (λa b q e=>c a b e) r
theorem VRs.mono{b:aq Lc}(e:ρ<+:b)(i:Imm h h')(r:VRs ρ h c vs):VRs b h' c vs:=r.ind .nil λa q d=>.cons (a.mono e i) d
theorem VRs.length(r:VRs ρ h us vs):us.length=vs.length:=r.ind (P:=λus vs=>us.length=vs.length) rfl λq q a=>cu Nat.succ a
theorem VRs.get(r:VRs ρ h us vs):∀ {i:Nat}{v:V},vs[i]? =ao v->∃ u,us[i]? =ao u/\VR ρ h u v:=r.ind (P:=λus vs=>∀ {i:Nat}{v:V},vs[i]? =ao v->∃ u,us[i]? =ao u/\VR ρ h u v) (λe=>aM (List.getElem?_nil.symm.trans e)) λ{u us v vs} a q b {i w} e=>by
  cases i with
  |zero=>exact⟨u,rfl,Option.some.inj e▸a⟩
  |succ i=>exact b e
theorem VRs.append(r:VRs ρ h us vs)(b:VRs ρ h c vs'):VRs ρ h (us++c) (vs++vs'):=r.ind (P:=λus vs=>VRs ρ h (us++c) (vs++vs')) b λa q d=>.cons a d
def OV(ρ:aq Lc)(h:jy):bn bz->bn V->Prop
 |none,none=>s7
 |some u,ao v=>VR ρ h u v
 |_,_=>fm
theorem OV.mono{a:aq Lc}(e:ρ<+:a)(i:Imm h h'):∀ {u:bn bz}{v:bn V},OV ρ h u v->OV a h' u v
 |none,none,_=>trivial
 |some _,ao _,x=>VR.mono e i x
 |none,ao _,x=>x.elim
 |some _,none,x=>x.elim
def c9:aq Str:=["isjunk","a","b","autojunk","matching_blocks","opcodes","fullbcount","b2j","bjunk","bpopular"]
structure Cx where
 prog:nk
 w:jp
 base:bv
 lim:base.heap.NoLimit
 GR:aq Lc->bv->Lc->Gn->Prop
 mono:∀ {ρ ρ':aq Lc}{s s':bv}{l:Lc}{g:Gn},ρ<+:ρ'->Imm s.heap s'.heap->(∀ o,s.heap.get? l.a=ao o->s'.heap.get? l.a=ao o)->(∀ o,s.heap.get? l.d=ao o->s'.heap.get? l.d=ao o)->
  (∀ k x,l.g=ao k->s.gens[k]? =ao x->s'.gens[k]? =ao x)->GR ρ s l g->GR ρ' s' l g
 here:∀ {ρ s l g},GR ρ s l g->∃ o o',s.heap.get? l.a=ao o/\s.heap.get? l.d=ao o'/\¬aZ o/\¬aZ o'
variable{C:Cx}
noncomputable abbrev Cx.M(C:Cx):ux:=h9 C.prog C.w
def OR(C:Cx)(ρ:aq Lc)(s:bv)(l:Lc):MO->Prop
 | .list vs=>l.d=l.a/\l.g=none/\∃ xs n,IsL s.heap l.a xs n/\VRs ρ s.heap xs.toList vs
 | .ro vs=>l.d=l.a/\l.g=none/\∃ xs,C.base.heap.IsList l.a xs/\VRs ρ s.heap xs.toList vs
 | .dict n f=>l.d=l.a/\l.g=none/\∃ kvs:aq (Int×bz),s.heap.DictOf (rB C.prog C.w) l.a kvs/\kvs.length<=n/\∀ k,OV ρ s.heap (ou kvs k) (f k)
 | .eset=>l.d=l.a/\l.g=none/\∃ n t,s.heap.get? l.a=ao {cls:=.type "set",data:=.set #[] n t}/\t.fits 0=be
 | .inst fs=>l.g=none/\l.d≠l.a/\(∃ o,s.heap.get? l.a=ao o/\o.cls= .ref d4/\o.data= .plain/\o.dict=ao l.d)/\∃ m,s.heap.Ns1 l.d m/\s.heap.ExactDictFk l.d/\Within m c9/\∀ x,OV ρ s.heap (m x) (fs x)
 | .gen g=>C.GR ρ s l g
 | .itr none=>l.d=l.a/\l.g=none/\∃ o,s.heap.get? l.a=ao o/\¬aZ o
 | .itr (ao p)=>l.d=l.a/\l.g=none/\∃ li,ρ[p.1]? =ao li/\s.heap.IsListIter l.a li.a p.2
structure Sim(C:Cx)(H:MH)(ρ:aq Lc)(s:bv):Prop where
 len:ρ.length=H.length
 keep:∀ b o,C.base.heap.get? b=ao o->s.heap.get? b=ao o
 objs:∀ (i:Nat) (m:MO) (l:Lc),H[i]? =ao m->ρ[i]? =ao l->OR C ρ s l m
 ro:∀ (i:Nat) (l:Lc),ρ[i]? =ao l->(∃ vs,H[i]? =ao (.ro vs))\/(C.base.heap.get? l.a=none/\C.base.heap.get? l.d=none)
 disj:∀ (i j:Nat) (li lj:Lc),ρ[i]? =ao li->ρ[j]? =ao lj->i≠j->∀ b,li.has b->¬lj.has b
 disjG:∀ (i j:Nat) (li lj:Lc) (k:Nat),ρ[i]? =ao li->ρ[j]? =ao lj->i≠j->li.g=ao k->lj.g≠ao k
 os:s.os=C.base.os
 bare:qc s.gens
structure Nx(ρ:aq Lc)(W:dw->Prop)(s:bv)(ρ':aq Lc)(s':bv):Prop where
 pre:ρ<+:ρ'
 new:∀ l∈ρ'.drop ρ.length,s.heap.get? l.a=none/\s.heap.get? l.d=none
 kp:∀ b o,s.heap.get? b=ao o->¬Own ρ b->¬W b->s'.heap.get? b=ao o
 imm:Imm s.heap s'.heap
 al:∀ b o,s.heap.get? b=ao o->∃ o',s'.heap.get? b=ao o'
theorem Nx.own{a:aq Lc}(N:Nx ρ W s a s'){b:dw}(c:s.heap.get? b=ao o)(h: ¬Own ρ b): ¬Own a b:=by
 rintro ⟨l,e,d⟩
 refine xE N.pre λt f=>?_;subst f
 refine Or.elim (gb.mp e) (λq=>(h ⟨l,q,d⟩)) λq=>?_
 ·have:=N.new l (by simpa using q)
  rcases d with rfl |rfl
  ·rw[this.1]at c;cases c
  ·rw[this.2]at c;cases c
theorem Nx.refl:Nx ρ W s ρ s:=⟨cy _,λl a=>by simp at a,λq q e q q=>e,.refl _,λq o e=>⟨o,e⟩⟩
theorem Nx.trans(a:Nx ρ W s g s1)(b:Nx g W s1 f s2):Nx ρ W s f s2:=by
 refine⟨a.pre.trans b.pre,λl h=>(xE a.pre λt k=>?_),λx o e i j=>b.kp x o (a.kp x o e i j) (a.own e i) j,a.imm.trans b.imm,λx o e=>xE (a.al x o e) λo' c=>b.al x o' c⟩;subst k
 refine xE b.pre λt' m=>?_;subst m
 rw[cz,qy]at h
 refine Or.elim (gb.mp h) (λq=>(a.new l (by simpa using q))) λq=>?_
 ·have n:=b.new l (by simpa using q)
  refine⟨?_,?_⟩
  ·cases e:s.heap.get? l.a with
   |none=>rfl
   |some o=>refine xE (a.al _ _ e) λo' c=>?_;rw[n.1]at c;cases c
  ·cases e:s.heap.get? l.d with
   |none=>rfl
   |some o=>refine xE (a.al _ _ e) λo' c=>?_;rw[n.2]at c;cases c
theorem Nx.weaken(a:Nx ρ W s c s')(h:∀ b,W b->d b):Nx ρ d s c s':=⟨a.pre,a.new,λb o e f g=>a.kp b o e f λq=>g (h b q),a.imm,a.al⟩
def noW:dw->Prop:=λq=>fm
theorem OR.mono(e:ρ<+:h)(i:Imm s.heap s'.heap)(c:∀ o,s.heap.get? l.a=ao o->s'.heap.get? l.a=ao o)(B:∀ o,s.heap.get? l.d=ao o->s'.heap.get? l.d=ao o)(M:∀ k x,l.g=ao k->s.gens[k]? =ao x->s'.gens[k]? =ao x)(r:OR C ρ s l m):OR C h s' l m:=by
 cases m with
 |list vs=>exact k7 r λa g j n x y=>⟨a,g,j,n,c _ x,y.mono e i⟩
 |ro vs=>exact rZ r λa g j x y=>⟨a,g,j,x,y.mono e i⟩
 |dict n f=>refine xG r λa g v J x y=>?_;obtain⟨o,u,D,A,q⟩:=J;exact⟨a,g,v,⟨o,u,D,c _ A,q⟩,x,λk=>(y k).mono e i⟩
 |eset=>exact k7 r λa g n t x y=>⟨a,g,n,t,c _ x,y⟩
 |inst N=>refine pC r λg L F m G I w y=>xEA F λo a b=>?_;obtain⟨H,u,D,A,q⟩:=G;refine xEA I λod K x=>?_;exact⟨g,L,⟨o,c _ a,b⟩,m,⟨H,u,D,B _ A,q⟩,⟨od,B _ K,x⟩,w,λk=>(y k).mono e i⟩
 |gen g=>exact C.mono e i c B M r
 |itr p=>cases p with
  |none=>exact rZ r λa g o y z=>⟨a,g,o,c _ y,z⟩
  |some p=>exact aH1 r λa g E x o y z=>⟨a,g,E,aT e x,o,c _ y,z⟩
theorem Sim.same(S:Sim C H ρ s)(a:∀ b o,s.heap.get? b=ao o->(Own ρ b\/(C.base.heap.get? b).isSome=be)->s'.heap.get? b=ao o)(i:Imm s.heap s'.heap)(g:∀ (k:Nat) (x:ow),s.gens[k]? =ao x->s'.gens[k]? =ao x)(d:s'.os=s.os)(f:qc s'.gens):Sim C H ρ s':=by
 exact⟨S.len,λb o e=>a b o (S.keep b o e) (.inr (by rw[e];rfl)),λj m l h c=>((S.objs j m l h c).mono (cy _) i (λo e=>a _ o e (.inl ⟨l,(fq c),.inl rfl⟩)) (λo e=>a _ o e (.inl ⟨l,(fq c),.inr rfl⟩)) (λk x q e=>g k x e)),S.ro,S.disj,S.disjG,d.trans S.os,f⟩
noncomputable abbrev Lo:=Str->bn V
variable{lo:Lo}
def Wr(env:Env)(b:dw):Prop:=b=env.locals\/∃ x,env.cells.lookup x=ao b
structure Fm(C:Cx)(env:Env)(ρ:aq Lc)(s:bv)(lo:Lo):Prop where
 fn:env.scope.kind= .function
 gl:env.globals=fu
 bi:env.builtins=jN
 ns:∃ m,s.heap.Ns env.locals m/\∀ x,env.kindOf x=ao .local->OV ρ s.heap (m x) (lo x)
 cl:∀ x,env.kindOf x=ao .cell\/env.kindOf x=ao .free->∃ c o u,env.cells.lookup x=ao c/\s.heap.get? c=ao o/\o.data= .cell u/\OV ρ s.heap u (lo x)
 own:∀ b,Wr env b->¬Own ρ b/\C.base.heap.get? b=none
 dis:∀ x c,env.cells.lookup x=ao c->c≠env.locals
 inj:∀ x y c,env.cells.lookup x=ao c->env.cells.lookup y=ao c->x=y
 alv:∀ b,Wr env b->∃ o,s.heap.get? b=ao o
theorem Fm.next(F:Fm C env ρ s lo)(N:Nx ρ W s d s')(l:∀ b,Wr env b->¬W b):Fm C env d s' lo:=by
 refine xEA F.ns λm t h=>?_;obtain⟨o,i,v,n,q⟩:=t
 have k:=λb o a e=>N.kp b o e (F.own b a).1 (l b a)
 exact⟨F.fn,F.gl,F.bi,⟨m,⟨o,i,v,k _ _ (.inl rfl) n,q⟩,λx f=>(h x f).mono N.pre N.imm⟩,λx f=>(cN (F.cl x f) λc o u g p r j=>⟨c,o,u,g,k _ _ (.inr ⟨x,g⟩) p,r,j.mono N.pre N.imm⟩),λb a=>⟨(xE (F.alv b a) λo e=>N.own e (F.own b a).1),(F.own b a).2⟩,F.dis,F.inj,λb a=>xE (F.alv b a) λo e=>N.al b o e⟩
def Room(r:Nat)(A:eu):Prop:=A.handled=none/\A.depth+10*r<=700/\A.units+40*r<=8000
theorem Room.lt(h:Room r A):A.depth<recursionLimit:=by exact(zzM1 0x57e8f41f6800057cf692bea00007 [A.depth,r] ⋯ h.2.1:A.depth<1000)
noncomputable abbrev NoE:bz->bv->Prop:=λq q=>fm
noncomputable abbrev EK:=V->MH->Prop
noncomputable abbrev EF:=Lo->MH->EK->Prop
inductive EPo(C:Cx)(ρ:aq Lc)(s:bv)(H':MH)(v:V)(x:bz)(s':bv):Prop
 |mk (ρ':aq Lc) (S:Sim C H' ρ' s') (N:Nx ρ noW s ρ' s') (r:VR ρ' s'.heap x v):EPo C ρ s H' v x s'
inductive bR(C:Cx)(ρ:aq Lc)(s:bv)(Q:EK)(x:bz)(s':bv):Prop
 |mk {ρ':aq Lc}{v:V}{H':MH} (S:Sim C H' ρ' s') (N:Nx ρ noW s ρ' s') (r:VR ρ' s'.heap x v) (q:Q v H'):bR C ρ s Q x s'
def EV(C:Cx)(r:Nat)(env:Env)(e:Expr)(f:EF):Prop:=∀ ⦃A:eu⦄⦃s:bv⦄⦃ρ:aq Lc⦄⦃H:MH⦄⦃lo:Lo⦄⦃Q:EK⦄,Room r A->Sim C H ρ s->Fm C env ρ s lo->f lo H Q->
  bI C.M A (iw e env) (bR C ρ s Q) NoE s
theorem wmN{s:bv}(h:bI M A t P NoE s)(k:∀ a s',P a s'->Q a s'):bI M A t Q E s:=fg h k λq q z=>z.elim
theorem bR.run{K:bz->bv->Prop}(h:bI M A t (bR C ρ s Q) NoE s)(k:∀ {x s' a v H'},Sim C H' a s'->Nx ρ noW s a s'->VR a s'.heap x v->Q v H'->K x s'):bI M A t K E s:=wmN h λb b z=>z.casesOn λS N r q=>k S N r q
theorem EV.run(h:EV C r env e f){K:bz->bv->Prop}(b:Room r A)(S:Sim C H ρ s)(F:Fm C env ρ s lo)(q:f lo H Q)(k:∀ {x s' a v H'},Sim C H' a s'->Nx ρ noW s a s'->VR a s'.heap x v->Q v H'->K x s'):bI C.M A (iw e env) K E s:=bR.run (h b S F q) k
theorem EPo.post(h:EPo C ρ s H' v x s')(q:Q v H'):bR C ρ s Q x s':=by cases h with |mk _ S N r=>exact ⟨S,N,r,q⟩
theorem Fm.nx{a:aq Lc}(F:Fm C env ρ s lo)(N:Nx ρ noW s a s'):Fm C env a s' lo:=F.next N λq q z=>z
theorem VR.nx{a:aq Lc}(r:VR ρ s.heap u v)(N:Nx ρ W s a s'):VR a s'.heap u v:=r.mono N.pre N.imm
theorem VRs.nx{a:aq Lc}{b:aq bz}(r:VRs ρ s.heap b vs)(N:Nx ρ W s a s'):VRs a s'.heap b vs:=r.mono N.pre N.imm
theorem bR.from{a:aq Lc}(N:Nx ρ noW s a s1)(p:bR C a s1 Q x s'):bR C ρ s Q x s':=by cases p with |mk S b r q=>exact ⟨S,N.trans b,r,q⟩
theorem EPo.from{a:aq Lc}(N:Nx ρ noW s a s1)(p:EPo C a s1 H' v x s'):EPo C ρ s H' v x s':=by cases p with |mk b S c r=>exact ⟨b,S,N.trans c,r⟩
theorem bG(h:jy):h.get? h.objs.size=none:=by
 cases e:h.get? h.objs.size with
 |none=>rfl
 |some o=>exact ca (Heap.lt_size e) (Nat.lt_irrefl _)
theorem Sim.toks(S:Sim C H ρ s)(k:Nat):Sim C H ρ {s with toks:=k}:=S.same (λq q e q=>e) (.refl _) (λq q e=>e) rfl S.bare
theorem Nx.toks(k:Nat):Nx ρ W s ρ {s with toks:=k}:=⟨cy _,λl a=>by simp at a,λq q e q q=>e,.refl _,λq o e=>⟨o,e⟩⟩
theorem fH(h:jy)(o:Obj):Imm h (h.push o):=λb x e q=>Heap.get?_push_of_some o e
theorem Sim.push(S:Sim C H ρ s)(o:Obj):Sim C H ρ {s with heap:=s.heap.push o}:=S.same (λq q e q=>Heap.get?_push_of_some o e) (fH _ _) (λq q e=>e) rfl S.bare
theorem Nx.push(o:Obj):Nx ρ W s ρ {s with heap:=s.heap.push o}:=⟨cy _,λl a=>by simp at a,λq q e q q=>Heap.get?_push_of_some o e,fH _ _,λq x e=>⟨x,Heap.get?_push_of_some o e⟩⟩
theorem Sim.live(S:Sim C H ρ s){i:Nat}(v:ρ[i]? =ao l):(∃ o,s.heap.get? l.a=ao o/\¬aZ o)/\∃ o,s.heap.get? l.d=ao o/\¬aZ o:=by
 have h:i<H.length:=by exact rwR S.len ((List.getElem?_eq_some_iff.mp v).1)
 have r:=S.objs i H[i] l (cg h) v
 revert r
 cases H[i] with
 |list vs=>rintro ⟨a,g,A,n,x,y⟩;exact rwL a ⟨⟨_,x,by simp [aZ]⟩,⟨_,x,by simp [aZ]⟩⟩
 |ro vs=>rintro ⟨a,g,A,⟨o,x,j,n,c⟩,y⟩;rw[a];exact⟨⟨_,(S.keep _ _ x),by simp [aZ,c,j]⟩,⟨_,(S.keep _ _ x),by simp [aZ,c,j]⟩⟩
 |dict n f=>rintro ⟨a,g,F,⟨o,D,J,e,j,c,_⟩,_⟩;exact rwL a ⟨⟨_,e,by simp [aZ,c]⟩,⟨_,e,by simp [aZ,c]⟩⟩
 |eset=>rintro ⟨a,g,n,t,x,y⟩;rw[a];exact⟨⟨_,x,by simp [aZ]⟩,⟨_,x,by simp [aZ]⟩⟩
 |inst L=>rintro ⟨g,M,⟨o,a,_,b,_⟩,m,⟨k,D,J,e,c,q⟩,_⟩;exact⟨⟨_,a,by simp [aZ,b]⟩,⟨_,e,by simp [aZ,c]⟩⟩
 |gen g=>exact λr=>(xEEAAA (C.here r) λo k B G I E=>⟨⟨o,B,I⟩,⟨k,G,E⟩⟩)
 |itr p=>cases p with
  |none=>rintro ⟨a,g,o,y,z⟩;rw[a];exact⟨⟨o,y,z⟩,⟨o,y,z⟩⟩
  |some p=>rintro ⟨a,g,K,x,o,y,w,u⟩;rw[a];exact⟨⟨o,y,by simp [aZ,w,u]⟩,⟨o,y,by simp [aZ,w,u]⟩⟩
theorem cY(a:∀ b o,h.get? b=ao o->h'.get? b=ao o):Imm h h':=λb o e q=>a b o e
theorem g6{α:Type}{ρ:aq α}{l l':α}(h:(ρ++[l])[i]? =ao l'):ρ[i]? =ao l'\/(i=ρ.length/\l'=l):=by
 refine Or.elim (q0 i ρ.length) (λq=>(.inl (rwR (List.getElem?_append_left q) h))) λq=>?_
 ·rw[gO q]at h
  cases e:i-ρ.length with
  |zero=>rw[e]at h;exact .inr ⟨Nat.le_antisymm (Nat.le_of_sub_eq_zero e) q,(Option.some.inj h).symm⟩
  |succ n=>rw[e]at h;cases h
theorem lM(S:Sim C H ρ s){b:dw}(h:s.heap.get? b=none):C.base.heap.get? b=none:=by
 cases e:C.base.heap.get? b with
 |none=>rfl
 |some o=>exact cyM (rwR (S.keep _ _ e) h)
theorem sE{C:Cx}{H:MH}{ρ:aq Lc}{s:bv}(S:Sim C H ρ s){l:Lc}(k:s.heap.get? l.a=none)(j:s.heap.get? l.d=none){b:dw}(h:l.has b): ¬Own ρ b:=by
 rintro ⟨l',f,g⟩
 refine xE (nq f) λi e=>?_
 refine ((S.live e).2.elim λa0 c=>(λz11 m i n=>xEA z11 λo c n=>?_) (S.live e).1 a0 c.1 c.2)
 have q:s.heap.get? b=none:=by rcases h with rfl |rfl<;>assumption
 rcases g with rfl |rfl
 ·cases (q▸c)
 ·cases (q▸i)
theorem Sim.new(S:Sim C H ρ s)(h:∀ b o,s.heap.get? b=ao o->s'.heap.get? b=ao o)(K:∀ (k:Nat) (x:ow),s.gens[k]? =ao x->s'.gens[k]? =ao x)(B:s'.os=s.os)(J:qc s'.gens)(v:s.heap.get? l.a=none)(F:s.heap.get? l.d=none)(I:∀ k,l.g=ao k->∀ l'∈ρ,l'.g≠ao k)(L:OR C (ρ++[l]) s' l m):Sim C (H++[m]) (ρ++[l]) s'/\∀ W,Nx ρ W s (ρ++[l]) s':=by
 have G:= @sE C H ρ s S l v F
 refine⟨⟨by rw[bx,bx,S.len];rfl,λb o e=>h b o (S.keep b o e),λi x l' E r=>?_,λi l' r=>?_,λi j p u D A c b f n=>?_,λi j p u k D A c f n=>?_,B.trans S.os,J⟩,
  λW=>⟨jr _ _,λl' r=>?_,λb o e M M=>h b o e,cY h,λb o e=>⟨o,h b o e⟩⟩⟩
 ·rcases g6 r with q |⟨rfl,rfl⟩
  ·exact(S.objs i x l' (rwR (List.getElem?_append_left (by exact rwR S.len ((List.getElem?_eq_some_iff.mp q).1))) E) q).mono (jr _ _) (cY h) (λo e=>h _ o e) (λo e=>h _ o e) (λk y M e=>K k y e)
  ·rw[S.len,gO (c5 _),ox]at E
   exact cxS E L
 ·rcases g6 r with q |⟨rfl,rfl⟩
  ·exact rwL (List.getElem?_append_left (by exact rwR S.len ((List.getElem?_eq_some_iff.mp q).1))) (S.ro i l' q)
  ·exact .inr ⟨lM S v,lM S F⟩
 ·rcases g6 D with q |⟨w,rfl⟩<;>rcases g6 A with t |⟨z,rfl⟩
  ·exact S.disj i j p u q t c b f n
  ·exact G n ⟨p,fq q,f⟩
  ·exact G f ⟨u,fq t,n⟩
  ·exact c (w.trans z.symm)
 ·rcases g6 D with q |⟨w,rfl⟩<;>rcases g6 A with t |⟨z,rfl⟩
  ·exact S.disjG i j p u k q t c f n
  ·exact I k n p (fq q) f
  ·exact I k f u (fq t) n
  ·exact c (w.trans z.symm)
 ·cases dc.mp (qy▸r);exact⟨v,F⟩
theorem Sim.grow(S:Sim C H ρ s)(f:∀ b o,s.heap.get? b=ao o->h'.get? b=ao o)(i:s.heap.get? l.a=none)(h:s.heap.get? l.d=none)(c:l.g=none)(j:OR C (ρ++[l]) {s with heap:=h',toks:=k} l m):Sim C (H++[m]) (ρ++[l]) {s with heap:=h',toks:=k}/\∀ W,Nx ρ W s (ρ++[l]) {s with heap:=h',toks:=k}:=S.new (s':= {s with heap:=h',toks:=k}) f (λq q e=>e) rfl S.bare i h (λk e=>by cases (c▸e)) j
theorem Sim.last(S:Sim C H ρ s):(ρ++[l])[H.length]? =ao l:=by rw[<-S.len];simp
theorem Sim.alloc(S:Sim C H ρ s)(o:Obj)(m:MO)(a:OR C (ρ++[⟨s.heap.objs.size,s.heap.objs.size,none⟩]) {s with heap:=s.heap.push o} ⟨s.heap.objs.size,s.heap.objs.size,none⟩ m):
  Sim C (H++[m]) (ρ++[⟨s.heap.objs.size,s.heap.objs.size,none⟩]) {s with heap:=s.heap.push o}:=(S.grow (λq q e=>Heap.get?_push_of_some o e) (bG _) (bG _) rfl a).1
theorem Nx.alloc(o:Obj):Nx ρ W s (ρ++[⟨s.heap.objs.size,s.heap.objs.size,none⟩]) {s with heap:=s.heap.push o}:=⟨jr _ _,λl a=>by simp at a;exact rwL a ⟨bG _,bG _⟩,λq q e q q=>Heap.get?_push_of_some o e,fH _ _,λq x e=>⟨x,Heap.get?_push_of_some o e⟩⟩
theorem Sim.upd(S:Sim C H ρ s)(g:ρ[i]? =ao l)(u:H[i]? =ao m)(k:∀ vs,m≠ .ro vs)(r:∀ b o,s.heap.get? b=ao o->¬l.has b->s'.heap.get? b=ao o)(w:Imm s.heap s'.heap)(t:s'.gens=s.gens)(n:s'.os=s.os)(z:OR C ρ s' l m')(v:∀ vs,m'≠ .ro vs):Sim C (H.set i m') ρ s':=by
 have f:C.base.heap.get? l.a=none/\C.base.heap.get? l.d=none:=by
  rcases S.ro i l g with ⟨vs,e⟩ |e
  ·exact ca (Option.some.inj (u▸e)) (k vs)
  ·exact e
 refine⟨by simp [S.len],λb o e=>r b o (S.keep b o e) (λq=>by rcases q with rfl |rfl<;>simp_all),λj x h p c=>?_,λj h c=>?_,S.disj,S.disjG,n.trans S.os,by exact rwL t S.bare⟩
 ·by_cases e:j=i
  ·subst e
   rw[g]at c;refine cxS c ?_
   rw[ef ((List.getElem?_eq_some_iff.mp u).1)]at p;refine cxS p ?_
   exact z
  ·have d:=S.disj j i h l c g e
   exact(S.objs j x h (rwR (ez (Ne.symm e)) p) c).mono (cy _) w (λo q=>r _ o q (d _ (.inl rfl))) (λo q=>r _ o q (d _ (.inr rfl))) (λk y A q=>by exact rwL t q)
 ·by_cases e:j=i
  ·subst e
   rw[g]at c;refine cxS c ?_
   exact .inr f
  ·exact rwL (ez (Ne.symm e)) (S.ro j h c)
theorem EPo.here(S:Sim C H ρ s)(r:VR ρ s.heap x v):EPo C ρ s H v x s:=⟨ρ,S,.refl,r⟩
theorem EPo.tok(S:Sim C H ρ s)(r:VR ρ s.heap x v):EPo C ρ s H v x {s with toks:=k}:=⟨ρ,S.toks _,.toks _,r⟩
theorem bR.here(S:Sim C H ρ s)(r:VR ρ s.heap x v)(q:Q v H):bR C ρ s Q x s:=⟨S,.refl,r,q⟩
theorem bR.tok(S:Sim C H ρ s)(r:VR ρ s.heap x v)(q:Q v H):bR C ρ s Q x {s with toks:=k}:=⟨S.toks _,.toks _,r,q⟩
def eK(v:V):EF:=λq H Q=>Q v H
theorem EV.int{k}{pos}:EV C r env (.Constant (.int i) k pos) (eK (.int i)):=λa a a a a a a S a q=>wpAny_Constant_int (.tok S (.int _ _) q)
theorem EV.none{k}{pos}:EV C r env (.Constant .none k pos) (eK .none):=λa a a a a a a S a q=>wpAny_Constant_none (.here S .none q)
theorem EV.bool{b}{k}{pos}:EV C r env (.Constant (.bool b) k pos) (eK (.bool b)):=λa a a a a a a S a q=>wpAny_Constant_bool (.here S (.bool b) q)
theorem EV.str{k}{pos}:EV C r env (.Constant (.str x) k pos) (eK (.str x)):=λa a a a a a a S a q=>wpAny_Constant_str (.tok S (.str _ _) q)
def Lf{α:Type}(o:bn α)(Q:α->Prop):Prop:=match o with |some p=>Q p |none=>fm
theorem Lf.elim{P:Prop}(h:Lf o Q)(k:∀ p,o=ao p->Q p->P):P:=match o,h,k with
 |some p,h,k=>k p rfl h
theorem Lf.mk{p:α}(e:o=ao p)(q:Q p):Lf o Q:=by exact rwL e q
def Lp(o:bn (V×MH))(Q:EK):Prop:=Lf o λp=>Q p.1 p.2
def eN(x:Str):EF:=λlo H Q=>Lf (lo x) λv=>Q v H
theorem OV.elim{P:Prop}(e:w=ao v)(o:OV ρ h u w)(k:∀ x,u=ao x->VR ρ h x v->P):P:=by
 subst e
 cases u with
 |none=>exact False.elim o
 |some x=>exact k x rfl o
theorem aBq{A:eu}{P:Prop}(F:Fm C env ρ s lo)(a:lo x=ao v)(b:env.kindOf x=ao .cell\/env.kindOf x=ao .free)(k:∀ c o u,env.cells.lookup x=ao c->s.heap.get? c=ao o->o.data= .cell (ao u)->VR ρ s.heap u v->P):P:=by
 exact cN (F.cl x b) λc o u d f g h=>h.elim a λu e r=>k c o u d f (g.trans (by rw[e])) r
theorem sA(hk:env.kindOf x=ao .local\/env.kindOf x=ao .cell\/env.kindOf x=ao .free)(g:(x==("__classdict__" :Str))=aL)(F:Fm C env ρ s lo)(b:lo x=ao v)(k:∀ u,VR ρ s.heap u v->Q u s):bI C.M A (loadName env x) Q E s:=by
 refine Or.elim hk (λhk=>(xEA F.ns λm a h=>(h x hk).elim b λu e r=>wpAny_loadName_local F.fn hk a e (k u r))) λz12=>Or.elim z12 (λhk=>?_) λhk=>?_
 ·exact aBq (A:=A) F b (.inl hk) λc o u c d f r=>wpAny_loadName_cell F.fn hk c ⟨o,d,f⟩ (k u r)
 ·exact aBq (A:=A) F b (.inr hk) λc o u c d f r=>wpAny_loadName_free F.fn hk c ⟨o,d,f⟩ (k u r) g
theorem EV.name{pos}(b:env.kindOf x=ao .local\/env.kindOf x=ao .cell\/env.kindOf x=ao .free)(c:(x==("__debug__" :Str))=aL)(d:(x==("__classdict__" :Str))=aL):EV C r env (.Name x pos) (eN x):=λe e e e e e e S F q=>q.elim λe a q=>wpAny_Name (sA b d F a λe rv=>.here S rv q) c
noncomputable abbrev OpF:=V->V->MH->bn (V×MH)
def OpR(C:Cx)(r:Nat)(op:bz->bz->Sem bz)(g:OpF):Prop:=∀ ⦃A:eu⦄⦃s:bv⦄⦃ρ:aq Lc⦄⦃H:MH⦄⦃a b:bz⦄⦃va vb:V⦄⦃Q:EK⦄,Room r A->Sim C H ρ s->VR ρ s.heap a va->VR ρ s.heap b vb->Lp (g va vb H) Q->
  bI C.M A (op a b) (bR C ρ s Q) NoE s
theorem OpR.of(h:∀ {A:eu}{s:bv}{ρ:aq Lc}{H:MH}{a b:bz}{c d v:V}{H':MH},Room r A->Sim C H ρ s->VR ρ s.heap a c->VR ρ s.heap b d->g c d H=ao (v,H')-> bI C.M A (op a b) (EPo C ρ s H' v) NoE s):OpR C r op g:=λj j j j j j j j j f S ra i q=>q.elim λj e q=>wmN (h f S ra i e) λj j p=>p.post q
def aA(g:OpF)(f1 f2:EF):EF:=λlo H Q=>f1 lo H λa H1=>f2 lo H1 λb H2=>Lp (g a b H2) Q
theorem EV.two(n:EV C r env i f1)(o:EV C r env j f2){Q:V->V->MH->Prop}{K:bz->bz->bv->Prop}(h:Room r A)(S:Sim C H ρ s)(F:Fm C env ρ s lo)(g:f1 lo H λa H1=>f2 lo H1 λb d=>Q a b d)(k:∀ {x y s2 c a b d},Sim C d c s2->Nx ρ noW s c s2->VR c s2.heap x a->VR c s2.heap y b->Q a b d->K x y s2):bI C.M A (iw i env) (λx s1=>bI C.M A (iw j env) (λy s2=>K x y s2) NoE s1) NoE s:=n.run h S F g λS1 f m g=>o.run h S1 (F.nx f) g λS2 e l q=>k S2 (f.trans e) (m.nx e) l q
theorem EV.binOp{b:Expr}(i:EV C r env b f1)(j:EV C r env c f2)(d:OpR C r (qh op) g):EV C r env (.BinOp b op c pos) (aA g f1 f2):=λk k k k k k a S F q=>wpAny_BinOp (EV.two i j a S F q λS2 e f h q=>wmN (d a S2 f h q) λk k p=>p.from e)
theorem EV.cmp1{a:Expr}(i:EV C r env c f1)(j:EV C r env a f2)(d:OpR C r (jd op) g)(k:ug op a=aL):EV C r env (.Compare c [op] [a] pos) (aA g f1 f2):=λl l l l l l b S F q=>wpAny_Compare1 (EV.two i j b S F q λS2 e f h q=>wmN (d b S2 f h q) λl l p=>p.from e) k
def Ti(v:V):bn Int:=match v with | .int x=>ao x |_=>none
theorem VR.tiE(r:VR ρ h u v)(e:Ti v=ao i):∃ t,u= .int i t:=by
 cases v with
 |int j=>exact cxS e r.inv
 |_=>first |exact aM e |cases e
theorem VR.ti{P:bz->Prop}(r:VR ρ h u v)(e:Ti v=ao i)(k:∀ t,P (.int i t)):P u:=xE (r.tiE e) λt e=>e▸k t
def o2(p:Int->Int->cw)(f:Int->Int->V):OpF:=λa b H=>(Ti a).bind λx=>(Ti b).bind λy=>if p x y then ao (f x y,H) else none
set_option tactic.hygienic true in
theorem aI6{a b:V}{P:Prop}(e:o2 p f a b H=ao (v,H'))(k:∀ x y,Ti a=ao x->Ti b=ao y->p x y=be->v=f x y->H'=H->P):P:=by
 refine xEA (bt.mp e) λx c e=>xEA (bt.mp e) λy d e=>?_
 split at e
 ·rename_i g;refine cySP e λzq h=>?_;subst zq h;exact k x y c d g rfl rfl
 ·exact aM e
def s9:OpF:=o2 (λq q=>be) λx y=>.int (x+y)
def cP:OpF:=o2 (λq q=>be) λx y=>.int (x-y)
def d3:OpF:=o2 (λx q=>decide (-1000000000<x/\x<1000000000)) λx y=>.int (x*y)
def fY:OpF:=o2 (λq y=>decide (0<y/\y<1000000000)) λx y=>.int (x/y)
def mL:OpF:=o2 (λq y=>decide (0<y)) λx y=>.int (x%y)
theorem OpR.i2(h:∀ {A:eu}{s:bv}{ρ:aq Lc}{x y:Int}{t u:Tok}{Q:bz->bv->Prop},Room r A->p x y=be->(∀ z k,VR ρ s.heap z (f x y)->Q z {s with toks:=k})->bI C.M A (op (.int x t) (.int y u)) Q NoE s):OpR C r op (o2 p f):=
 by
  refine OpR.of ?_
  intro A s ρ H a b o q v H' l S ra n e
  refine aI6 e λx y i j c m g=>?_
  subst m g
  exact VR.ti (P:=λa=>bI C.M A (op a b) _ _ _) ra i λt=>VR.ti (P:=λb=>bI C.M A (op _ b) _ _ _) n j λu=>h l c λz k d=>EPo.tok S d
theorem OpR.sub:OpR C r (qh .Sub) cP:=OpR.i2 λq q k=>sub_int (k _ _ (.int _ _))
theorem OpR.mul:OpR C r (qh .Mult) d3:=OpR.i2 λq b k=>by
 have a:=cn b
 exact mul_int (k _ _ (.int _ _)) (.of_left (intBits_le_64 (ip (Int.lt_trans (by decide) a.1)) (Int.lt_trans a.2 (by decide))))
theorem OpR.div:OpR C r (qh .FloorDiv) fY:=OpR.i2 λq b k=>by
 have a:=cn b
 exact floordiv_int (Int.ne_of_gt a.1) (k _ _ (rwL (Int.fdiv_eq_ediv_of_nonneg _ (ip a.1)) (.int _ _))) (.inl (PyProof.noPylong_small (by omega)))
theorem OpR.mod:OpR C r (qh .Mod) mL:=OpR.i2 λq b k=>by
 have a:=cn b
 exact mod_int' (Int.ne_of_gt a) (k _ _ (rwL (Int.fmod_eq_emod_of_nonneg _ (ip a)) (.int _ _)))
def oCmp(f:Int->Int->cw):OpF:=o2 (λq q=>be) λx y=>.bool (f x y)
noncomputable abbrev oLt:OpF:=oCmp λx y=>decide (x<y)
noncomputable abbrev oLe:OpF:=oCmp λx y=>decide (x<=y)
noncomputable abbrev oGt:OpF:=oCmp λx y=>decide (x>y)
noncomputable abbrev oGe:OpF:=oCmp λx y=>decide (x>=y)
theorem OpR.lt:OpR C r (jd .Lt) oLt:=OpR.i2 λq q k=>lt_int (k _ _ (.bool _))
theorem OpR.le:OpR C r (jd .LtE) oLe:=OpR.i2 λq q k=>le_int (k _ _ (.bool _))
theorem OpR.gt:OpR C r (jd .Gt) oGt:=OpR.i2 λq q k=>gt_int (k _ _ (.bool _))
theorem OpR.ge:OpR C r (jd .GtE) oGe:=OpR.i2 λq q k=>ge_int (k _ _ (.bool _))
open PySem PySem.W PyProof.Rows PySem.Calls PyProof
def MO.vs:MO->bn (aq V) | .list vs=>ao vs | .ro vs=>ao vs |_=>none
def MO.own:MO->bn (aq V) | .list vs=>ao vs |_=>none
def V.rf:V->bn Nat | .ref i=>ao i |_=>Option.none
def lst(H:MH)(v:V):bn (aq V):=v.rf.bind λi=>H[i]?.bind MO.vs
def own(H:MH)(v:V):bn (aq V):=v.rf.bind λi=>H[i]?.bind MO.own
theorem VR.toRef(r:VR ρ h u v)(e:v.rf=ao i):∃ l,v= .ref i/\u= .ref l.a/\ρ[i]? =ao l:=by
 cases v with
 |ref n=>exact cxS e (xEA r.inv λl b c=>⟨l,rfl,b,c⟩)
 |_=>first |exact aM e |cases e
theorem lst_mo{i:Nat}(e:H[i]?.bind MO.vs=ao vs):H[i]? =ao (.list vs)\/H[i]? =ao (.ro vs):=by
 refine xEA (bt.mp e) λm b a=>?_
 cases m with
 |list c=>exact cxS a (.inl b)
 |ro c=>exact cxS a (.inr b)
 |_=>cases a
theorem lB{i:Nat}(e:H[i]?.bind MO.own=ao vs):H[i]? =ao (.list vs):=by
 refine xEA (bt.mp e) λm b a=>?_
 cases m with
 |list c=>exact cxS a b
 |_=>cases a
theorem b9(S:Sim C H ρ s)(r:VR ρ s.heap u v)(e:lst H v=ao vs):∃ a xs,u= .ref a/\s.heap.IsList a xs/\VRs ρ s.heap xs.toList vs:=by
 refine xEA (bt.mp e) λi d e=>cU (r.toRef d) λl f hu g=>Or.elim (lst_mo e) (λh=>(k7 (S.objs i _ l h g) λj j xs k b rs=>⟨_,xs,hu,⟨_,b,rfl,_,rfl⟩,rs⟩)) λh=>?_
 ·refine rZ (S.objs i _ l h g) λj j xs c rs=>xEA c λo b q=>?_;exact⟨_,xs,hu,⟨o,S.keep _ _ b,q⟩,rs⟩
structure mC(H:MH)(ρ:aq Lc)(s:bv)(i:Nat)(l:Lc)(vs:aq V)(xs:iz bz)(n:Nat):Prop where
 g:ρ[i]? =ao l
 d:l.d=l.a
 gn:l.g=none
 h:H[i]? =ao (.list vs)
 x:IsL s.heap l.a xs n
 r:VRs ρ s.heap xs.toList vs
theorem jM(S:Sim C H ρ s)(g:ρ[i]? =ao l)(h:H[i]? =ao (.list vs)):∃ xs n,mC H ρ s i l vs xs n:=let ⟨b,c,xs,k,a,rs⟩:=S.objs i _ l h g;⟨xs,k,g,b,c,h,a,rs⟩
theorem VRs.sz{xs:iz bz}(r:VRs ρ h xs.toList vs):xs.size=vs.length:=by exact rwR r.length Array.length_toList.symm
def aFi:V->bn iq | .none=>ao .none | .bool b=>ao (.bool b) | .int i=>ao (.int i) | .str s=>ao (.str s) |_=>none
def rd(H:MH):Nat->V->bn iq
 |0,v=>aFi v
 |n+1,.tup vs=>(vs.mapM (rd H n)).map .tuple
 |n+1,.ref i=>(lst H (.ref i)).bind λvs=>(vs.mapM (rd H n)).map .list
 |_+1,v=>aFi v
theorem fZ(r:VR ρ h u v)(e:aFi v=ao d):∃ f,vi h u d f:=by
 cases v with
 |none=>refine cxS e ?_;cases(show u= .none from r.inv);exact⟨_,.none⟩
 |bool b=>refine cxS e ?_;cases(show u= .bool b from r.inv);exact⟨_,.bool b⟩
 |int i=>exact cxS e (xE r.inv λt a=>rwL a ⟨_,.int i t⟩)
 |str x=>exact cxS e (xE r.inv λt c=>rwL c ⟨_,.str x t⟩)
 |_=>first |exact aM e |cases e
theorem m7(k:∀ {u:bz}{v:V}{d:iq},VR ρ h u v->rd H n v=ao d->∃ c,vi h u d c)(r:VRs ρ h us vs):∀ {b:aq iq},vs.mapM (rd H n)=ao b->∃ c,ReadsAll h us b c:=r.ind (P:=λus vs=>∀ {b:aq iq},vs.mapM (rd H n)=ao b->∃ c,ReadsAll h us b c) (λe=>by exact cxS e ⟨_,.nil⟩) λa q f b e=>by
  simp only[fe,uy,bt,pure_def,Option.some.injEq]at e
  refine aC6 e λd l b m g=>?_;clear e;subst g
  exact xE (k a l) λas j=>xE (f m) λbs i=>⟨_,.cons j i⟩
theorem g8(S:Sim C H ρ s):∀ (n:Nat){u:bz}{v:V}{d:iq},VR ρ s.heap u v->rd H n v=ao d->∃ p,vi s.heap u d p:=λn=>by
 induction n with
 |zero=>
  intro _ _ _ r e
  exact fZ r e
 |succ n l=>
  intro u v d r e
  cases r with
  |tup g rs=>
   refine xEA (dr.mp e) λds j h=>rwR h ?_
   exact xE (m7 (l) rs j) λas f=>⟨_,.tuple g rfl rfl f⟩
  |ref g=>
   refine xEA (bt.mp e) λvs m e=>xEA (dr.mp e) λds j c=>rwR c ?_
   refine bV (b9 S (.ref g) m) λa z hu a rs=>?_;obtain⟨o,q,y,k,w⟩:=a
   refine xE (m7 (l) rs j) λas f=>?_
   cases hu
   exact⟨_,.list q y w f⟩
  |none=>exact fZ (ρ:=ρ) .none e
  |bool b=>exact fZ (ρ:=ρ) (.bool b) e
  |int i t=>exact fZ (ρ:=ρ) (.int i t) e
  |str x t=>exact fZ (ρ:=ρ) (.str x t) e
  |_=>first |exact aM e |cases e
def eqD:Nat:=8
def eqv(H:MH)(a b:V):bn cw:=(rd H eqD a).bind λda=>(rd H eqD b).bind λdb=>if PySem.SeqAt.shaped da && PySem.SeqAt.shaped db then ao (PyData.eqv da db) else none
def bN(f:cw->cw):OpF:=λa b H=>(eqv H a b).map λt=>(.bool (f t),H)
theorem Room.units(h:Room r A):A.units+64<cLine:=by exact(zzM1 0x149d6cf41f4283da000001fa83da41a3ea00007 [A.units,r] ⋯ h.2.2:A.units+64<9900)
set_option tactic.hygienic true in
theorem OpR.eqB(h:∀ {A:eu}{s:bv}{a b:bz}{da db:iq}{as bs:aq dw}{Q:bz->bv->Prop},Room r A->vi s.heap a da as->vi s.heap b db bs->PySem.SeqAt.shaped da=be->PySem.SeqAt.shaped db=be-> Q (.bool (f (PyData.eqv da db))) s->bI C.M A (op a b) Q NoE s):OpR C r op (bN f):=by
 refine OpR.of ?_
 intro A s ρ H a b p q v H' l S ra o e
 exact xEA (dr.mp e) λt c n=>(by
  refine xEA (bt.mp c) λda j c=>xEA (bt.mp c) λdb k c=>xE (g8 S _ ra j) λas g=>xE (g8 S _ o k) λbs d=>?_
  split at c
  ·rename_i i
   exact (λda db as bs g d s1 s2 m=>h l g d s1 s2 (by exact cxP n (rwR m (.here S (.bool _))))) da db as bs g d (cp.mp i).1 (cp.mp i).2 (Option.some.inj c).symm
  ·first |exact aM c |cases c)
theorem OpR.eq:OpR C r (jd .Eq) (bN id):=OpR.eqB λhr b a s1 s2 q=>eq_dataH b a s1 s2 hr.units q
theorem OpR.ne:OpR C r (jd .NotEq) (bN not):=OpR.eqB λhr b a s1 s2 q=>ne_dataH b a s1 s2 hr.units q
def tr(v:V)(H:MH):bn cw:=match v with
 | .none=>ao aL
 | .bool b=>ao b
 | .int i=>ao (i != 0)
 | .str x=>if x.length<1000000 then ao ((x.length:Int) != 0) else none
 | .ref i=>(lst H (.ref i)).bind λvs=>if vs.length<1000000 then ao (!vs.isEmpty) else none
 |_=>none
noncomputable abbrev TF:=Lo->MH->(cw->MH->Prop)->Prop
inductive nU(C:Cx)(ρ:aq Lc)(s:bv)(Q:cw->MH->Prop)(b:cw)(s':bv):Prop
 |mk {ρ':aq Lc}{H':MH} (S:Sim C H' ρ' s') (N:Nx ρ noW s ρ' s') (q:Q b H'):nU C ρ s Q b s'
def TV(C:Cx)(r:Nat)(env:Env)(e:Expr)(f:TF):Prop:=∀ ⦃A:eu⦄⦃s:bv⦄⦃ρ:aq Lc⦄⦃H:MH⦄⦃lo:Lo⦄⦃Q:cw->MH->Prop⦄,Room r A->Sim C H ρ s->Fm C env ρ s lo->f lo H Q->
  bI C.M A (isTrue e env (iw e env)) (nU C ρ s Q) NoE s
theorem TV.run(h:TV C r env e f){K:cw->bv->Prop}(c:Room r A)(S:Sim C H ρ s)(F:Fm C env ρ s lo)(q:f lo H Q)(k:∀ {b s' a H'},Sim C H' a s'->Nx ρ noW s a s'->Q b H'->K b s'):bI C.M A (isTrue e env (iw e env)) K E s:=wmN (h c S F q) λd d z=>z.casesOn λS N q=>k S N q
theorem nU.from{a:aq Lc}{b:cw}(N:Nx ρ noW s a s1)(p:nU C a s1 Q b s'):nU C ρ s Q b s':=by cases p with |mk S c q=>exact ⟨S,N.trans c,q⟩
theorem mH{b:cw}{K:cw->bv->Prop}(S:Sim C H ρ s)(rv:VR ρ s.heap u v)(e:tr v H=ao b)(k:∀ n,K b {s with toks:=n}):bI C.M A (truthy u) K E s:=by
 cases v with
 |none=>refine cyS e λzq=>?_;subst zq;cases(show u= .none from rv.inv);exact PyProof.Rows.truthy_none (k s.toks)
 |bool q=>cases e;cases(show u= .bool b from rv.inv);exact oy (k s.toks)
 |int i=>refine cyS e λzq=>?_;subst zq;exact xE rv.inv λt f=>rwL f (truthy_int (k s.toks))
 |str x=>
  refine xE rv.inv λt h=>?_;subst h
  have e:(if x.length<1000000 then ao ((x.length:Int) != 0) else none)=ao b:=e
  by_cases c:x.length<1000000
  ·rw[cj c]at e
   have e:=Option.some.inj e
   subst e
   exact PySem.P.truthy_str (by omega) (k _)
  ·rw[cc c]at e;cases e
 |ref g=>
  refine xEA (bt.mp e) λvs c e=>bV (b9 S rv c) λa l j o p=>?_;subst j
  by_cases a:vs.length<1000000
  ·rw[cj a]at e
   have d:=p.sz
   refine wpAny_truthy_list o (by omega) ?_
   have m:(! l.isEmpty)=b:=by
    rw[<-Option.some.inj e]
    unfold Array.isEmpty
    refine rwL d ?_
    cases vs<;>rfl
   exact m▸k _
  ·cases ((cc a)▸e)
 |_=>first |exact aM e |cases e
def tE(f:EF):TF:=λlo H Q=>f lo H λv H1=>Lf (tr v H1) λb=>Q b H1
theorem mY{a:aq Lc}(S:Sim C H a s1)(N:Nx ρ noW s a s1)(rv:VR a s1.heap u v)(e:Lf (tr v H) λb=>Q b H):bI C.M A (truthy u) (nU C ρ s Q) E s1:=e.elim λb e q=>mH S rv e λc=>⟨S.toks _,N.trans (.toks _),q⟩
theorem TV.val(h:EV C r env e f)(a:isTrue e env (iw e env)=(do let v<-iw e env;vo e.pos;tX [v] (truthy v))):TV C r env e (tE f):=λi i i i i i c S F g=>wpAny_isTrue_value (h.run c S F g λS1 b d q=>mY S1 b d q) a
def q9(f:TF):TF:=λlo H Q=>f lo H λb H'=>Q (!b) H'
theorem TV.not(h:TV C r env e f):TV C r env (.UnaryOp .Not e pos) (q9 f):=λb b b b b b a S F g=>wpAny_isTrue_Not (h.run a S F g λS N q=>⟨S,N,q⟩)
theorem TV.cmp1{a:Expr}(i:EV C r env c f1)(j:EV C r env a f2)(d:OpR C r (jd op) g)(m:ug op a=aL):TV C r env (.Compare c [op] [a] pos) (tE (aA g f1 f2)):=λn n n n n n b S F q=>wpAny_isTrue_Compare1 (EV.two i j b S F q λS2 e f h q=>bR.run (d b S2 f h q) λS3 k l q=>mY S3 (e.trans k) l q) m
def aW(f g:TF):TF:=λlo H Q=>f lo H λb H1=>bif b then g lo H1 Q else Q aL H1
def tOr(f g:TF):TF:=λlo H Q=>f lo H λb H1=>bif b then Q be H1 else g lo H1 Q
def tK(b:cw):TF:=λq H Q=>Q b H
def kS(C:Cx)(r:Nat)(env:Env)(op:BoolOp)(es:aq Expr)(f:TF):Prop:=∀ ⦃A:eu⦄⦃s:bv⦄⦃ρ:aq Lc⦄⦃H:MH⦄⦃lo:Lo⦄⦃Q:cw->MH->Prop⦄,Room r A->Sim C H ρ s->Fm C env ρ s lo->f lo H Q->
  bI C.M A (allTrue op es env) (nU C ρ s Q) NoE s
theorem kS.and_nil:kS C r env .And [] (tK be):=λa a a a a a a S a q=>wpAny_allTrue_And_nil ⟨S,.refl,q⟩
theorem kS.or_nil:kS C r env .Or [] (tK aL):=λa a a a a a a S a q=>wpAny_allTrue_Or_nil ⟨S,.refl,q⟩
theorem kS.and_cons(h:TV C r env e f)(hs:kS C r env .And d g):kS C r env .And (e::d) (aW f g):=λj j j j j j c S F q=>wpAny_allTrue_And_cons (h.run c S F q λ{b j j j} i a q=>match b,q with
  |true,q=>wmN (hs c i (F.nx a) q) λj j p=>p.from a
  |false,q=>⟨i,a,q⟩)
theorem kS.or_cons(h:TV C r env e f)(hs:kS C r env .Or d g):kS C r env .Or (e::d) (tOr f g):=λj j j j j j c S F q=>wpAny_allTrue_Or_cons (h.run c S F q λ{b j j j} i a q=>match b,q with
  |false,q=>wmN (hs c i (F.nx a) q) λj j p=>p.from a
  |true,q=>⟨i,a,q⟩)
theorem TV.boolOp{a:aq Expr}(h:kS C r env op a f):TV C r env (.BoolOp op a pos) f:=λq q q q q q b S F e=>wpAny_isTrue_BoolOp (h b S F e)
def n9(f:EF):EF:=λlo H Q=>f lo H λv H1=>Lf (Ti v) λi=>Q (.int (-i)) H1
theorem EV.neg(h:EV C r env e f):EV C r env (.UnaryOp .USub e pos) (n9 f):=λg g g g g g d S F q=>wpAny_UnaryOp (h.run d S F q λ{x s' g g g} b c a q=>q.elim λi e q=>VR.ti (P:=λx=>bI C.M _ (unaryOp .USub x) _ _ s') a e λt=>neg_int ⟨b.toks _,c.trans (.toks _),.int _ _,q⟩)
noncomputable abbrev EFs:=Lo->MH->(aq V->MH->Prop)->Prop
def esN:EFs:=λq H Q=>Q [] H
def esC(f:EF)(g:EFs):EFs:=λlo H Q=>f lo H λv H1=>g lo H1 λvs H2=>Q (v::vs) H2
inductive zG(C:Cx)(ρ:aq Lc)(s:bv)(Q:aq V->MH->Prop)(xs:aq bz)(s':bv):Prop
 |mk {ρ':aq Lc}{vs:aq V}{H':MH} (S:Sim C H' ρ' s') (N:Nx ρ noW s ρ' s') (r:VRs ρ' s'.heap xs vs) (q:Q vs H'):zG C ρ s Q xs s'
def EVs(C:Cx)(r:Nat)(env:Env)(es:aq Expr)(f:EFs):Prop:=∀ ⦃A:eu⦄⦃s:bv⦄⦃ρ:aq Lc⦄⦃H:MH⦄⦃lo:Lo⦄⦃Q:aq V->MH->Prop⦄⦃pos:Pos⦄,Room r A->Sim C H ρ s->Fm C env ρ s lo->f lo H Q->
  bI C.M A (spliced (kr pos (ee es env))) (zG C ρ s Q) NoE s
theorem EVs.nil:EVs C r env [] esN:=λa a a a a a a a S a q=>qq ⟨S,.refl,.nil,q⟩
theorem EVs.cons{a:aq Expr}(h:EV C r env e f)(hs:EVs C r env a g)(k:ee (e::a) env=(aL,iw e env)::ee a env):EVs C r env (e::a) (esC f g):=λl l l l l l l d S F q=>mG (h.run d S F q λS1 c j q=>wmN (hs d S1 (F.nx c) q) λl l z=>z.casesOn λS2 b i q=>⟨S2,c.trans b,.cons (j.nx b) i,q⟩) k
def aY(g:EFs):EF:=λlo H Q=>g lo H λvs H1=>vs.length<100/\Q (.tup vs) H1
theorem EV.tuple{b:aq Expr}(h:EVs C r env b g):EV C r env (.Tuple b k pos) (aY g):=λi i i i i i c S F q=>wpAny_Tuple (wmN (h c S F q) λxs s1 ⟨f,d,a,e,q⟩=>⟨by exact rwL a.length (rwL dx (A2 e)),f.push _,d.trans (.push _),.tup (Heap.get?_push_size _ rfl) (by simpa using a.mono (cy _) (fH _ _)),q⟩)
def mkL(vs:aq V)(H:MH):bn (V×MH):=if vs.length<1000000 then ao (.ref H.length,H++[.list vs]) else none
set_option tactic.hygienic true in
theorem jR{P:Prop}(e:mkL vs H=ao p)(k:vs.length<1000000->p=(.ref H.length,H++[.list vs])->P):P:=by
 unfold mkL at e
 split at e
 ·rename_i h;exact k h (Option.some.inj e).symm
 ·first |exact aM e |cases e
def b8(g:EFs):EF:=λlo H Q=>g lo H λvs H1=>Lp (mkL vs H1) Q
theorem Sim.newList(S:Sim C H ρ s)(a:VRs ρ s.heap xs.toList vs):EPo C ρ s (H++[.list vs]) (.ref H.length) (.ref s.heap.objs.size) {s with heap:=s.heap.push {cls:=.type "list",data:=.seq xs}}:=by
 refine⟨ρ++[⟨s.heap.objs.size,s.heap.objs.size,none⟩],S.alloc {cls:=.type "list",data:=.seq xs} (.list vs) ⟨rfl,rfl,xs,0,Heap.get?_push_size _ rfl,a.mono (jr _ _) (fH _ _)⟩,.alloc _,?_⟩
 exact VR.ref (l:=⟨s.heap.objs.size,s.heap.objs.size,none⟩) (by rw[<-S.len];simp)
theorem EV.list{b:aq Expr}(h:EVs C r env b g):EV C r env (.List b pos) (b8 g):=λf f f f f f c S F q=>wpAny_List (wmN (h c S F q) λxs s1 z=>z.casesOn λS1 d a q=>q.elim λp e q=>jR e λhl e=>by
  subst e
  exact⟨by exact rwL a.length (rwL dx (A3 hl)),((S1.newList (by simpa using a)).from d).post q⟩)
def aP:OpF:=λa b H=>match Ti a,Ti b with
 |some x,ao y=>ao (.int (x+y),H)
 |_,_=>(lst H a).bind λxs=>(lst H b).bind λys=>mkL (xs++ys) H
set_option tactic.hygienic true in
theorem OpR.add:OpR C r (qh .Add) aP:=by
 refine OpR.of ?_
 intro A s ρ H a b N O v H' Q S ra B e
 unfold aP at e
 split at e
 ·rename_i x y g q
  exact cxSP e (VR.ti (P:=λa=>bI C.M A (qh .Add a b) _ _ _) ra g λt=>VR.ti (P:=λb=>bI C.M A (qh .Add _ b) _ _ _) B q λu=>add_int (.tok S (.int _ _)))
 ·refine xEA (bt.mp e) λxs g e=>xEA (bt.mp e) λys q e=>jR e λhl e=>?_
  cases e
  refine bV (b9 S ra g) λi K f I w=>?_;subst f
  refine bV (b9 S B q) λj h o o2 t=>?_;subst o
  have D:=t.sz
  obtain⟨⟨cls,G,data,sl⟩,u,L,n,E⟩:=I
  obtain⟨⟨z,k,m,d⟩,c,p,J,l⟩:=o2
  subst L;subst E;subst p;subst l
  exact concat_meets ⟨_,u,rfl⟩ ⟨_,c,rfl⟩ noFill_list_add seq_list_add PySem.F.slot_list_add PySem.F.entry_list_add (PySem.F.args_list_add_2 _ _) (list_addW i j K h n J G k sl d (by exact rwL dx (A4 (rwR bx hl) w.sz D))) ⟨u,c,S.newList (by exact rwL Array.toList_append (w.append t))⟩
inductive Fl where
 |next |brk |cont |ret (v:V)
inductive FlR(ρ:aq Lc)(h:jy):ve->Fl->Prop
 |next:FlR ρ h .next .next
 |brk:FlR ρ h .brk .brk
 |cont:FlR ρ h .cont .cont
 |ret {u v} (r:VR ρ h u v):FlR ρ h (.ret u) (.ret v)
noncomputable abbrev SK:=Fl->Lo->MH->Prop
variable{K:SK}
noncomputable abbrev SF:=Lo->MH->SK->Prop
inductive nV(C:Cx)(env:Env)(ρ:aq Lc)(s:bv)(Q:SK)(f:ve)(s':bv):Prop
 |mk {ρ':aq Lc}{fl:Fl}{lo':Lo}{H':MH} (S:Sim C H' ρ' s') (N:Nx ρ (Wr env) s ρ' s') (F:Fm C env ρ' s' lo') (r:FlR ρ' s'.heap f fl) (q:Q fl lo' H'):nV C env ρ s Q f s'
def SV(C:Cx)(r:Nat)(env:Env)(st:je)(f:SF):Prop:=∀ ⦃A:eu⦄⦃s:bv⦄⦃ρ:aq Lc⦄⦃H:MH⦄⦃lo:Lo⦄⦃Q:SK⦄,Room r A->Sim C H ρ s->Fm C env ρ s lo->f lo H Q->
  bI C.M A (exec st env) (nV C env ρ s Q) NoE s
def SVs(C:Cx)(r:Nat)(env:Env)(st:aq je)(f:SF):Prop:=∀ ⦃A:eu⦄⦃s:bv⦄⦃ρ:aq Lc⦄⦃H:MH⦄⦃lo:Lo⦄⦃Q:SK⦄,Room r A->Sim C H ρ s->Fm C env ρ s lo->f lo H Q->
  bI C.M A (n5 st env) (nV C env ρ s Q) NoE s
theorem nV.from{a:aq Lc}(N:Nx ρ (Wr env) s a s1)(p:nV C env a s1 Q f s'):nV C env ρ s Q f s':=by cases p with |mk S b F r q=>exact ⟨S,N.trans b,F,r,q⟩
theorem Nx.wr{a:aq Lc}(N:Nx ρ noW s a s'):Nx ρ W s a s':=N.weaken λb q=>q.elim
def upd(lo:Lo)(x:Str)(v:V):Lo:=λy=>if y=x then ao v else lo y
theorem dT{a:dw}(hs:Heap.SameBut a h h')(d:h.get? a=ao o)(c: ¬aZ o):Imm h h':=λb x e i=>by
 by_cases q:b=a
 ·subst q;refine cyS (d▸e) λzq=>?_;subst zq;exact ca i c
 ·exact rwL (hs.2 b q) e
theorem Sim.side{a:dw}(S:Sim C H ρ s)(hs:Heap.SameBut a s.heap h')(f:s.heap.get? a=ao o)(d: ¬aZ o)(c: ¬Own ρ a)(g:C.base.heap.get? a=none):Sim C H ρ {s with heap:=h',toks:=k}:=by
 refine S.same (λb x e q=>?_) (dT hs f d) (λh h e=>e) rfl S.bare
 have:b≠a:=by
  rintro rfl
  refine Or.elim q (λq=>(c q)) λq=>?_
  ·cases (g▸q)
 exact(rwL (hs.2 b this) e:h'.get? b=ao x)
theorem Nx.side{a:dw}(hs:Heap.SameBut a s.heap h')(f:s.heap.get? a=ao o)(d: ¬aZ o)(j:W a)(h:∃ i,h'.get? a=ao i):Nx ρ W s ρ {s with heap:=h',toks:=k}:=⟨cy _,λl c=>by simp at c,λb x e l g=>by
  have:b≠a:=by rintro rfl;exact g j
  exact(rwL (hs.2 b this) e:h'.get? b=ao x),dT hs f d,λb x e=>by
  by_cases q:b=a
  ·exact rwL q h
  ·exact⟨x,by exact(rwL (hs.2 b q) e:h'.get? b=ao x)⟩⟩
inductive eU(C:Cx)(env:Env)(W:dw->Prop)(ρ:aq Lc)(s:bv)(Q:Lo->MH->Prop)(u:tj)(s':bv):Prop
 |mk {ρ':aq Lc}{lo':Lo}{H':MH} (S:Sim C H' ρ' s') (N:Nx ρ W s ρ' s') (F:Fm C env ρ' s' lo') (q:Q lo' H'):eU C env W ρ s Q u s'
theorem eU.from{a:aq Lc}(N:Nx ρ W s a s1)(p:eU C env W a s1 Q x s'):eU C env W ρ s Q x s':=by cases p with |mk S b F q=>exact ⟨S,N.trans b,F,q⟩
theorem eU.run{α:Type}{K:tj->bv->Prop}(h:bI M A t (eU C env W ρ s Q) NoE s)(k:∀ {x s' a b H'},Sim C H' a s'->Nx ρ W s a s'->Fm C env a s' b->Q b H'->K x s'):bI M A t K E s:=wmN h λc c z=>z.casesOn λS N F q=>k S N F q
theorem gZ{K:tj->bv->Prop}(S:Sim C H ρ s)(F:Fm C env ρ s lo)(rv:VR ρ s.heap u v)(f:(env.kindOf x=ao .local/\W env.locals)\/(env.kindOf x=ao .cell/\∀ c,env.cells.lookup x=ao c->W c))(k:∀ s',Sim C H ρ s'->Nx ρ W s ρ s'->Fm C env ρ s' (upd lo x v)->K () s'):bI C.M A (storeName env x u) K E s:=by
 rcases f with ⟨f,D⟩ |⟨f,D⟩
 ·refine xEA F.ns λm d J=>dQ (id d) λo T U B Q X=>?_
  have i: ¬aZ o:=by delta aZ;exact rwL Q id
  refine wpAny_storeName_local f d (λh' G a=>?_) (by rw[F.fn];rfl)
  have h:=dT a B i
  refine k _ (S.side a B i (F.own _ (.inl rfl)).1 (F.own _ (.inl rfl)).2) (.side a B i D (let ⟨o2,_,_,g,_⟩:=G;⟨o2,g⟩)) ⟨F.fn,F.gl,F.bi,⟨_,G,λy hy=>?_⟩,λy hy=>?_,F.own,F.dis,F.inj,λb p=>?_⟩
  ·by_cases q:y=x
   ·simp only[upd,cj q];exact rv.mono (cy _) h
   ·simp only[upd,cc q];exact(J y hy).mono (cy _) h
  ·refine cN (F.cl y hy) λc r O e j n N=>?_
   have q:y≠x:=by rintro rfl;rw[f]at hy;refine Or.elim hy (λhy=>?_) λhy=>?_<;>cases hy
   exact⟨c,r,O,e,(a.2 c (F.dis y c e)).trans j,n,by rw[upd,cc q];exact N.mono (cy _) h⟩
  ·by_cases q:b=env.locals
   ·exact iZ G λo2 Y Y g Y=>rwL q ⟨o2,g⟩
   ·exact xE (F.alv b p) λo2 g=>⟨o2,(a.2 b q).trans g⟩
 ·refine cN (F.cl x (.inl f)) λc o O e j n N=>?_
  have i: ¬aZ o:=by delta aZ;exact rwL n id
  refine wpAny_storeName_cell F.fn f e ⟨o,j,n⟩ (λh' I a=>?_)
  have L:=F.own c (.inr ⟨x,e⟩)
  have h:=dT a j i
  refine k _ (S.side a j i L.1 L.2) (.side a j i (D c e) (xEA I λo2 g Y=>⟨o2,g⟩)) ⟨F.fn,F.gl,F.bi,?_,λy hy=>?_,F.own,F.dis,F.inj,λb p=>?_⟩
  ·refine xEA F.ns λm d J=>⟨m,d.sameBut a (Ne.symm (F.dis x c e)),λy hy=>?_⟩
   have q:y≠x:=by rintro rfl;cases (f▸hy)
   rw[upd,cc q];exact(J y hy).mono (cy _) h
  ·by_cases q:y=x
   ·exact xEA I λo2 l w=>⟨c,o2,ao u,q▸e,l,w,by rw[upd,cj q];exact rv.mono (cy _) h⟩
   ·exact cN (F.cl y hy) λc' r t l w P R=>⟨c',r,t,l,(a.2 c' (λz=>q (F.inj y x c' l (z▸e)))).trans w,P,by rw[upd,cc q];exact R.mono (cy _) h⟩
  ·by_cases q:b=c
   ·exact xEA I λo2 g Y=>rwL q ⟨o2,g⟩
   ·exact xE (F.alv b p) λo2 g=>⟨o2,(a.2 b q).trans g⟩
theorem u9(a:env.kindOf x=ao .local\/env.kindOf x=ao .cell):(env.kindOf x=ao .local/\Wr env env.locals)\/(env.kindOf x=ao .cell/\∀ c,env.cells.lookup x=ao c->Wr env c):=a.imp (λh=>⟨h,.inl rfl⟩) λh=>⟨h,λq e=>.inr ⟨_,e⟩⟩
def sK(fl:Fl):SF:=λlo H Q=>Q fl lo H
theorem SV.pass{pos}:SV C r env (.Pass pos) (sK .next):=λa a a a a a a S F q=>wpAny_Pass ⟨S,.refl,F,.next,q⟩
theorem SV.brk{pos}:SV C r env (.Break pos) (sK .brk):=λa a a a a a a S F q=>wpAny_Break ⟨S,.refl,F,.brk,q⟩
theorem SV.cont{pos}:SV C r env (.Continue pos) (sK .cont):=λa a a a a a a S F q=>wpAny_Continue ⟨S,.refl,F,.cont,q⟩
def gD(f:EF):SF:=λlo H Q=>f lo H λv H1=>Q (.ret v) lo H1
theorem SV.ret{pos}(h:EV C r env e f):SV C r env (.Return (ao e) pos) (gD f):=λd d d d d d b S F q=>wpAny_Return_some (h.run b S F q λS1 a c q=>⟨S1,a.wr,F.nx a,.ret c,q⟩)
theorem SV.ret0{pos}:SV C r env (.Return none pos) (sK (.ret .none)):=λa a a a a a a S F q=>wpAny_Return_none ⟨S,.refl,F,.ret .none,q⟩
def bD(x:Str)(f:EF):SF:=λlo H Q=>f lo H λv H1=>Q .next (upd lo x v) H1
theorem SV.assign{pos}{pos'}(h:EV C r env e f)(d:env.kindOf x=ao .local\/env.kindOf x=ao .cell)(hs:qz e (ao (.Name x pos')) pos.line env=pure aL):SV C r env (.Assign [.Name x pos'] e pos) (bD x f):=λj j j j j j g S F q=>wpAny_Assign_Name (h.run g S F q λS1 a c q=>gZ S1 (F.nx a) c (u9 d) λj S2 b i=>⟨S2,a.wr.trans b,i,.next,q⟩) hs
def sIf(t:TF)(f g:SF):SF:=λlo H Q=>t lo H λb H1=>bif b then f lo H1 Q else g lo H1 Q
theorem SV.ite{pos}(k:TV C r env t h)(i:SVs C r env b1 f)(j:SVs C r env d g):SV C r env (.If t b1 d pos) (sIf h f g):=λl l l l l l c S F q=>wpAny_If (k.run c S F q λ{b l l l} e a q=>match b,q with
  |true,q=>wmN (i c e (F.nx a) q) λl l p=>p.from a.wr
  |false,q=>wmN (j c e (F.nx a) q) λl l p=>p.from a.wr)
def bM(g:SF)(Q:SK):SK:=λfl lo H=>match fl with | .next=>g lo H Q |fl=>Q fl lo H
def aB(f g:SF):SF:=λlo H Q=>f lo H (bM g Q)
theorem SVs.nil:SVs C r env [] (sK .next):=λa a a a a a a S F q=>sQ ⟨S,.refl,F,.next,q⟩
theorem SVs.cons{st:je}{a:aq je}(h:SV C r env st f)(hs:SVs C r env a g):SVs C r env (st::a) (aB f g):=by
 intro A s ρ H lo Q i S F q
 rw[execs_cons]
 refine zzB (wmN (h i S F q) λfw s1 p=>?_)
 obtain⟨c,d,b,e,q⟩:=p
 cases e with
 |next=>exact wmN (hs i c b q) λj j p=>p.from d
 |brk=>exact zzP ⟨c,d,b,.brk,q⟩
 |cont=>exact zzP ⟨c,d,b,.cont,q⟩
 |ret e=>exact zzP ⟨c,d,b,.ret e,q⟩
theorem Sim.ext(S:Sim C H ρ s)(a:∀ b o,s.heap.get? b=ao o->h'.get? b=ao o):Sim C H ρ {s with heap:=h',toks:=k}:=S.same (λb o e q=>a b o e) (cY a) (λq q e=>e) rfl S.bare
theorem Nx.ext(a:∀ b o,s.heap.get? b=ao o->h'.get? b=ao o):Nx ρ W s ρ {s with heap:=h',toks:=k}:=⟨cy _,λl c=>by simp at c,λb o e q q=>a b o e,cY a,λb o e=>⟨o,a b o e⟩⟩
theorem yR(e:Heap.ExtBut h.objs.size h h'):∀ b o,h.get? b=ao o->h'.get? b=ao o:=λb o q=>e b o (gq (Heap.lt_size q)) q
def at_(k:Int)(vs:aq V):bn V:=if-1000000<k/\k<1000000 then(jg k vs.length).bind λj=>vs[j]? else none
def V.tp:V->bn (aq V) | .tup vs=>ao vs |_=>Option.none
def aQ:OpF:=λa b H=>(Ti b).bind λk=>(match a.tp with |some vs=>at_ k vs |none=>(lst H a).bind (at_ k)).map λv=>(v,H)
set_option tactic.hygienic true in
theorem xU(h:jg k n=ao j):(0<=k/\j=k.toNat/\j<n)\/(k<0/\ -(n:Int)<=k/\j=(k+n).toNat/\j<n):=by
 unfold jg at h
 by_cases q:k<0
 ·simp only[q,vp]at h
  split at h
  ·rename_i g;refine cxS h ?_;simp at g;right;exact A5 g
  ·cases h
 ·simp only[q,mq]at h
  split at h
  ·rename_i g;refine cxS h ?_;simp at g;left;exact A6 g
  ·cases h
set_option tactic.hygienic true in
theorem aBu{P:Prop}(e:at_ k vs=ao v)(h:∀ j,-1000000<k->k<1000000->jg k vs.length=ao j->vs[j]? =ao v->P):P:=by
 unfold at_ at e
 split at e
 ·rename_i a
  exact xEA (bt.mp e) λj b c=>h j a.1 a.2 b c
 ·first |exact aM e |cases e
theorem VR.toTup(r:VR ρ h u v)(e:v.tp=ao vs):∃ a xs n,v= .tup vs/\u= .ref a/\h.get? a=ao {cls:=.type "tuple",data:=.seq xs n}/\VRs ρ h xs.toList vs:=by
 cases v with
 |tup f=>exact cxS e (dQ r.inv λa xs n b c d=>⟨a,xs,n,rfl,b,c,d⟩)
 |_=>first |exact aM e |cases e
set_option tactic.hygienic true in
theorem EV.idx(j:EV C r env f f1)(c:EV C r env h f2)(hs:∀ o i,∃ ops,subscripted h aL o i=operate ops (sg o i)):EV C r env (.Subscript f h pos) (aA aQ f1 f2):=λ_ _ _ _ _ _ Z S F q=>Subscript_ (EV.two j c Z S F q λ{x y s2 _ _ _ _} S2 Y d O q=>q.elim λp e q=>by
  obtain⟨R,z,W,U,T,id,hT,t⟩:=(by
   intro A s ρ H a b l J v H' S ra K e
   refine xEA (bt.mp e) λk X f=>xEA (dr.mp f) λw p h=>?_
   clear e f
   cases h
   refine VR.ti (P:=λb=>H=H/\∃ x,VR ρ s.heap x v/\(∀ Q:bz->bv->Prop,Q x s->bI C.M A (sg a b) Q NoE s)/\∃ T id,s.TypeIs a T/\fv (.type T) "__getitem__" =pure (ao (.builtin id))) K X λt=>⟨rfl,?_⟩
   split at p
   ·rename_i vs D
    refine cN (ra.toTup D) λad L n _ E g rs=>?_;subst E
    exact aBu p λj j c I G=>xEA (rs.get G) λx k d=>⟨x,d,λQ q=>(PyProof.Rows.getItem_tuple ⟨_,g,rfl,_,rfl⟩ (by omega) (by omega) (by exact rwL rs.sz I) (by simpa using k) q),"tuple",_,⟨_,g,rfl⟩,slot_tuple_getitem.lookup⟩
   ·refine xEA (bt.mp p) λvs t e4=>bV (b9 S ra t) λad L w c B=>rwL w ?_
    refine aBu e4 λj k1 k2 I G=>xEA (B.get G) λx k d=>⟨x,d,λQ q=>?_,"list",_,c.typeIs,slot_list_getitem.lookup⟩
    rcases xU I with ⟨u,rfl,m⟩ |⟨u,j,rfl,m⟩
    ·exact wpAny_getItem_list c u (by omega) (by simpa using k) q
    ·exact wpAny_getItem_list_neg c u (A7 B.sz j) (by omega) (by rw[B.sz];simpa using k) q:∀{A:eu}{s:bv}{ρ:aq Lc}{H:MH}{a b:bz}{l J v:V}{H':MH}(S:Sim C H ρ s)(ra:VR ρ s.heap a l)(K:VR ρ s.heap b J)(e:aQ l J H=ao (v,H')),H'=H/\∃ x,VR ρ s.heap x v/\(∀ Q:bz->bv->Prop,Q x s->bI C.M A (sg a b) Q NoE s)/\∃ T id,s.TypeIs a T/\fv (.type T) "__getitem__" =pure (ao (.builtin id))) S2 d O e
  exact xE (hs x y) λops N=>tail_any hT t (U _ ⟨S2,Y,W,R▸q⟩) N)
noncomputable abbrev AF:=V->Lo->MH->(Lo->MH->Prop)->Prop
def AVW(C:Cx)(W:Env->dw->Prop)(r:Nat)(env:Env)(t:Expr)(f:AF):Prop:=∀ ⦃A:eu⦄⦃s:bv⦄⦃ρ:aq Lc⦄⦃H:MH⦄⦃lo:Lo⦄⦃u:bz⦄⦃v:V⦄⦃Q:Lo->MH->Prop⦄,Room r A->Sim C H ρ s->Fm C env ρ s lo->VR ρ s.heap u v->f v lo H Q->
  bI C.M A (ul t env u) (eU C env (W env) ρ s Q) NoE s
noncomputable abbrev AV(C:Cx)(r:Nat)(env:Env)(t:Expr)(f:AF):Prop:=AVW C Wr r env t f
def aN(x:Str):AF:=λv lo H Q=>Q (upd lo x v) H
theorem AV.name{pos}(a:env.kindOf x=ao .local\/env.kindOf x=ao .cell):AV C r env (.Name x pos) (aN x):=λb b b b b b b b b S F rv q=>rD (gZ S F rv (u9 a) λb S N F=>⟨S,N,F,q⟩)
noncomputable abbrev AFs:=aq V->Lo->MH->(Lo->MH->Prop)->Prop
def q8(C:Cx)(W:Env->dw->Prop)(r:Nat)(env:Env)(ts:aq Expr)(f:AFs):Prop:=∀ ⦃A:eu⦄⦃s:bv⦄⦃ρ:aq Lc⦄⦃H:MH⦄⦃lo:Lo⦄⦃us:aq bz⦄⦃vs:aq V⦄⦃Q:Lo->MH->Prop⦄,Room r A->Sim C H ρ s->Fm C env ρ s lo->VRs ρ s.heap us vs->f vs lo H Q->
  bI C.M A (qd ((fp ts env).map (·.2)) us) (eU C env (W env) ρ s Q) NoE s
noncomputable abbrev AVs(C:Cx)(r:Nat)(env:Env)(ts:aq Expr)(f:AFs):Prop:=q8 C Wr r env ts f
def asN:AFs:=λvs lo H Q=>match vs with | []=>Q lo H |_=>fm
def asC(f:AF)(g:AFs):AFs:=λvs lo H Q=>match vs with
 |v::vs=>f v lo H λlo1 H1=>g vs lo1 H1 Q
 | []=>fm
theorem q8.nil:q8 C W r env [] asN:=by
 intro A s ρ H lo b vs Q a S F rv e
 cases rv with
 |nil=>exact zzP ⟨S,.refl,F,e⟩
 |cons _ _=>exact e.elim
set_option tactic.hygienic true in
theorem q8.cons(h:AVW C W r env t f)(hs:q8 C W r env c g)(k:fp (t::c) env=(aL,ul t env)::fp c env):q8 C W r env (t::c) (asC f g):=by
 intro A s ρ H lo l vs Q i S F rv e
 cases rv with
 |nil=>exact e.elim
 |cons a b=>
  rename_i u l v vs
  exact rwL k (zzB (cb (eU.run (α:=tj) (h i S F a e) λS1 d j q=>wmN (hs i S1 j (b.nx d) q) λm m p=>p.from d)))
theorem w8{x1}{a:iz bz}(B:A.handled=none)(k:s.heap.IsList t a)(F:(fp f env).length=a.size)(m:(fp f env).findIdx? (·.1)=none)(h:∀ h',Heap.ExtBut s.heap.objs.size s.heap h'->bI (h9 prog w) A (qd ((fp f env).map (·.2)) a.toList) Q E {s with heap:=h'}):
  bI (h9 prog w) A (ul (.Tuple f x1 pos) env (.ref t)) Q E s:=by
 rw[PyProof.Rows.assign_Tuple]
 refine zzB (fh ?_)
 delta unpack
 exact rwL F (rwL m (zzB (cb ((by
  have g:t≠s.heap.objs.size:=by refine xEA k λo z G=>?_;exact gq (Heap.lt_size z)
  delta unpackItems
  refine zzB ?_
  delta notIterableAtAll
  refine zzB (nr k.typeIs slot_list_iter.lookup (zzP (zzB (cb (oz k (zzB (cb ((by
   exact λ{it t a} v=>λl=>by
     induction l with
     |zero=>
      exact λi s Q p G G h=>(zzP (by simpa using h s.heap p (Heap.SameBut.refl ..)):bI _ _ (pure []) Q E s)
     |succ n C=>
      intro i s Q p k D h
      have g:i<a.size:=by omega
      refine zzB (oW p k (x:=a[i]) (by simp [g]) λh₁ d c=>(zzB (cb (C (i+1) _ _ d (k.extBut c.extBut v) (by omega) λh₂ j q=>zzP ?_))))
      have:=h h₂ (by exact rwL (show i+(n+1)=i+1+n by omega) j) (c.trans q)
      rw[(by simp [List.drop_eq_getElem_cons,g]:a.toList.drop i=a[i]::a.toList.drop (i+1)),List.take_succ_cons]at this
      exact this:∀{it t:dw}{a:iz bz}(v:t≠it),∀ (n i:Nat) (s:bv) (Q:aq bz->bv->Prop),s.heap.IsListIter it t i->s.heap.IsList t a->i+n<=a.size-> (∀ h',h'.IsListIter it t (i+n)->Heap.SameBut it s.heap h'->Q ((a.toList.drop i).take n) {s with heap:=h'})->bI (h9 prog w) A (draw (.ref it) n) Q E s) g a.size 0 _ _ ⟨_,Heap.get?_push_size _ rfl,rfl,rfl⟩ (k.push _) (by omega) (λh₁ d c=>?_)))))))))
  have u:List.take a.size (List.drop 0 a.toList)=a.toList:=by
   exact rwL List.drop_zero (mn (by simp))
  refine rwL u (rwL (cc (by simp)) (zzB (cb (tf B d ((k.push _).extBut c.extBut g) (by simp) λh₂ r=>(zzP (h h₂ λb o y e=>r b o y (c.extBut b o y (Heap.get?_push_of_some _ e)))))))))))))
def V.sq(H:MH):V->bn (aq V) | .tup vs=>ao vs | .ref i=>lst H (.ref i) |_=>Option.none
def aTup(n:Nat)(g:AFs):AF:=λv lo H Q=>Lf (v.sq H) λvs=>vs.length=n/\g vs lo H Q
theorem AVW.tuple{pos}(h:q8 C W r env j g)(m:(fp j env).length=n)(hstar:(fp j env).findIdx? (·.1)=none):AVW C W r env (.Tuple j k pos) (aTup n g):=λA s ρ H lo u v Q f S F rv e=>e.elim λvs c d=>by
  cases v with
  |tup q=>
   refine cyS c λzq=>?_;subst zq
   refine cN (rv.toTup rfl) λa o t w b gt rs=>rwL b ?_
   refine assign_Tuple_tuple f.1 ⟨_,gt,rfl,_,rfl⟩ (by exact rwL m (rwL rs.sz d.1.symm)) hstar λh' l=>?_
   have a:=yR l
   exact wmN (h f (S.ext a) (F.nx (.ext a)) (rs.mono (cy _) (cY a)) d.2) λw w p=>p.from (.ext a)
  |ref i=>
   refine bV (b9 S rv c) λa o b gt rs=>?_;subst b
   refine w8 f.1 gt (by exact rwL m (rwL rs.sz d.1.symm)) hstar λh' l=>?_
   have a:=yR l
   exact wmN (h f (S.ext a) (F.nx (.ext a)) (rs.mono (cy _) (cY a)) d.2) λw w p=>p.from (.ext a)
  |_=>first |exact aM c |cases c
structure NxI(ρ:aq Lc)(X:dw->Prop)(s:bv)(ρ':aq Lc)(s':bv):Prop where
 pre:ρ<+:ρ'
 new:∀ l∈ρ'.drop ρ.length,s.heap.get? l.a=none/\s.heap.get? l.d=none
 kp:∀ b o,s.heap.get? b=ao o->¬Own ρ b->¬X b->s'.heap.get? b=ao o
 imm:Imm s.heap s'.heap
 al:∀ b o,s.heap.get? b=ao o->¬X b->∃ o',s'.heap.get? b=ao o'
noncomputable abbrev NK(σ:Type):=bn (V×σ)->MH->Prop
inductive qZ(C:Cx){σ:Type}(mid:aq Lc->bv->σ->bz->bz->(dw->Prop)->Prop)(ρ:aq Lc)(s:bv)(X:dw->Prop)(x:bz)(Q:NK σ):bn bz->bv->Prop
 |done {s' ρ' H'} (S:Sim C H' ρ' s') (I:NxI ρ X s ρ' s') (q:Q none H'):qZ C mid ρ s X x Q none s'
 |item {s' ρ' H' v it' u} (S:Sim C H' ρ' s') (I:NxI ρ X s ρ' s') (r:VR ρ' s'.heap u v) (m:mid ρ' s' it' u x X) (q:Q (ao (v,it')) H'):qZ C mid ρ s X x Q (ao u) s'
structure ItK(C:Cx) where
 σ:Type
 nx:σ->MH->NK σ->Prop
 rel:aq Lc->bv->σ->bz->(dw->Prop)->Prop
 mid:aq Lc->bv->σ->bz->bz->(dw->Prop)->Prop
 tg:Expr->Prop
 need:Nat
 mono:∀ {ρ ρ' s s' it x X},rel ρ s it x X->ρ<+:ρ'->Imm s.heap s'.heap->(∀ b o,X b->s.heap.get? b=ao o->s'.heap.get? b=ao o)->rel ρ' s' it x X
 alive:∀ {ρ s it x X},rel ρ s it x X->∀ b,X b->∃ o,s.heap.get? b=ao o
 next:∀ {A:eu}{s ρ H it x X}{Q:NK σ}{r:Nat},need<=r->Room r A->Sim C H ρ s->rel ρ s it x X->(∀ b,X b->¬Own ρ b/\C.base.heap.get? b=none)->nx it H Q->
  bI C.M A (ku x) (qZ C mid ρ s X x Q) NoE s
 lgo:∀ {A:eu}{s ρ H it x X u}{target:Expr}{r:Nat},Room r A->Sim C H ρ s->mid ρ s it u x X->tg target->(∀ b,X b->¬Own ρ b/\C.base.heap.get? b=none)->
  bI C.M A (sU target x u) (λq s'=>Sim C H ρ s'/\NxI ρ X s ρ s'/\rel ρ s' it x X) NoE s
noncomputable abbrev IF(K:ItK C):=Lo->MH->(K.σ->MH->Prop)->Prop
inductive zF(K:ItK C)(ρ:aq Lc)(s:bv)(Q:K.σ->MH->Prop)(y:bz)(s2:bv):Prop
 |mk {ρ':aq Lc}{X:dw->Prop}{it:K.σ}{H':MH} (S:Sim C H' ρ' s2) (N:Nx ρ noW s ρ' s2) (R:K.rel ρ' s2 it y X) (hX:∀ b,X b->s.heap.get? b=none/\¬Own ρ' b/\C.base.heap.get? b=none) (q:Q it H'):zF K ρ s Q y s2
def IV(K:ItK C)(r:Nat)(env:Env)(e:Expr)(f:IF K):Prop:=∀ ⦃A:eu⦄⦃s:bv⦄⦃ρ:aq Lc⦄⦃H:MH⦄⦃lo:Lo⦄⦃Q:K.σ->MH->Prop⦄,Room r A->Sim C H ρ s->Fm C env ρ s lo->f lo H Q->
  bI C.M A (iw e env) (λx s1=>bI C.M A (um x) (zF K ρ s Q) NoE s1) NoE s
theorem fA(S:Sim C H ρ s){b:dw}(h:s.heap.get? b=none): ¬Own ρ b:=sE (l:=⟨b,b,none⟩) S h h (.inl rfl)
theorem d7(S:Sim C H ρ s){b:dw}(h:s.heap.get? b=none):C.base.heap.get? b=none:=lM S h
theorem Sim.iterStep{a:dw}(S:Sim C H ρ s)(c:∀ b o,b≠a->s.heap.get? b=ao o->h'.get? b=ao o)(g:∀ o,s.heap.get? a=ao o->¬aZ o)(h: ¬Own ρ a)(j:C.base.heap.get? a=none):Sim C H ρ {s with heap:=h'}/\NxI ρ (λb=>b=a) s ρ {s with heap:=h'}:=by
 have d:Imm s.heap h':=λb o e i=>by
  by_cases q:b=a
  ·subst q;exact ca i (g o e)
  ·exact c b o q e
 refine⟨S.same (λb o e q=>c b o ?_ e) d (λk k e=>e) rfl S.bare,⟨cy _,λl f=>by simp at f,λb o e k q=>c b o q e,d,λb o e q=>⟨o,c b o q e⟩⟩⟩
 rintro rfl
 refine Or.elim q (λq=>(h q)) λq=>?_
 ·cases (j▸q)
theorem NxI.refl:NxI ρ X s ρ s:=⟨cy _,λl a=>by simp at a,λq q e q q=>e,.refl _,λq o e q=>⟨o,e⟩⟩
def pU:aq qr:=["enumerate","zip","dict_itemiterator","dict_reverseitemiterator","odict_iterator","itertools.zip_longest","itertools.pairwise"]
theorem kI{a:dw}(d:s.heap.get? a=ao o)(f:o.cls= .type T)(e:pU.contains T=aL)(h:Q () s):bI M A (sU target (.ref a) u) Q E s:=by
 have c:bI M A (do
   let (.ref r,.ref b):=(Value.ref a,u) |return
   let o<-load r
   match o.cls,o.data with
   | .type n,.fields vs=>
    if ["enumerate","zip","dict_itemiterator","dict_reverseitemiterator","odict_iterator","itertools.zip_longest","itertools.pairwise"].contains n && vs[0]? ==ao (rawInt b) then
     rule "for.unpacks-the-owned-tuple"
     updateField r 0 .none
   |_,_=>pure ():Sem tj) Q E s:=by
  cases u with
  |ref b=>
   refine zzB (wpAny_load d (rwL f ?_))
   cases o.data<;>first |exact zzP h | (dsimp only;exact rwL e (zzP h))
  |_=>exact zzP h
 cases target<;>first |exact zzP h |exact c
theorem cM{a:aq Lc}(f:Nx ρ noW s a s1)(e:Sim C H1 a s1){b:dw}(d:s1.heap.get? b=none):s.heap.get? b=none/\¬Own a b/\C.base.heap.get? b=none:=by
 refine⟨?_,fA e d,d7 e d⟩
 cases g:s.heap.get? b with
 |none=>rfl
 |some o=>refine xE (f.al _ _ g) λo' c=>?_;cases (d▸c)
structure ItP(C:Cx)(σ:Type) where
 nx:σ->MH->bn (bn (V×σ))
 rel:aq Lc->bv->σ->dw->Prop
 T:qr
 own:pU.contains T=aL
 mono:∀ {ρ ρ' s s' it a},rel ρ s it a->ρ<+:ρ'->Imm s.heap s'.heap->(∀ o,s.heap.get? a=ao o->s'.heap.get? a=ao o)->rel ρ' s' it a
 obj:∀ {ρ s it a},rel ρ s it a->∃ o,s.heap.get? a=ao o/\o.cls= .type T/\¬aZ o
 item:∀ {A:eu}{s ρ H it a v it'}{Q:bn bz->bv->Prop},A.handled=none->Sim C H ρ s->rel ρ s it a->nx it H=ao (ao (v,it'))->
  (∀ u h' k,Heap.SameBut a s.heap h'->VR ρ s.heap u v->(∀ s':bv,s'.heap=h'->Imm s.heap h'->rel ρ s' it' a)->Q (ao u) {s with heap:=h',toks:=k})->bI C.M A (ku (.ref a)) Q NoE s
 fin:∀ {A:eu}{s ρ H it a}{Q:bn bz->bv->Prop},A.handled=none->Sim C H ρ s->rel ρ s it a->nx it H=ao none->
  (∀ h',Heap.ExtBut a s.heap h'->Q none {s with heap:=h'})->bI C.M A (ku (.ref a)) Q NoE s
theorem Sim.iterK{a:dw}(S:Sim C H ρ s)(e:∀ b o,b≠a->s.heap.get? b=ao o->h'.get? b=ao o)(c:∀ o,s.heap.get? a=ao o->¬aZ o)(d: ¬Own ρ a)(f:C.base.heap.get? a=none):Sim C H ρ {s with heap:=h',toks:=k}/\NxI ρ (λb=>b=a) s ρ {s with heap:=h',toks:=k}:=xA (S.iterStep e c d f) λS' I=>⟨S'.toks k,⟨I.pre,I.new,I.kp,I.imm,I.al⟩⟩
def ItP.it(P:ItP C σ):ItK C where
 σ:=σ
 nx:=λit H Q=>Lf (P.nx it H) λy=>Q y H
 rel:=λρ s it x X=>∃ a,x= .ref a/\X=(λb=>b=a)/\P.rel ρ s it a
 mid:=λρ s it u x X=>∃ a,x= .ref a/\X=(λb=>b=a)/\P.rel ρ s it a
 tg:=λc=>s7
 need:=0
 mono:=λh e i hk=>cU h λa hx hX h=>⟨a,hx,hX,P.mono h e i λo q=>hk a o (hX▸rfl) q⟩
 alive:=λz b hb=>cU z λa c hX h=>by clear z;subst hX;subst hb;refine xEA (P.obj h) λo ho c=>?_;exact⟨o,ho⟩
 next:=by
  rintro A s ρ H it x X Q r _ hr S ⟨a,rfl,rfl,h⟩ hX e
  refine cU (P.obj h) λo ho hc hi=>?_
  have hi':∀ o,s.heap.get? a=ao o->¬aZ o:=λo' e'=>by rw[ho]at e';cases e';exact hi
  have hXa:=hX a rfl
  refine e.elim λy ey q=>?_
  cases y with
  |some p=>
   refine P.item hr.1 S h ey λu h' k hs ru hrel=>?_
   refine xA (S.iterK (h':=h') (k:=k) (λb o hb e=>by rw[hs.2 b hb];exact e) hi' hXa.1 hXa.2) λS' I=>?_
   exact .item S' I (ru.mono (cy _) I.imm) ⟨a,rfl,rfl,hrel _ rfl I.imm⟩ q
  |none=>
   refine P.fin hr.1 S h ey λh' he=>?_
   refine xA (S.iterK (h':=h') (k:=s.toks) (λb o hb e=>he b o hb e) hi' hXa.1 hXa.2) λS' I=>?_
   exact .done S' I q
 lgo:=by
  rintro A s ρ H it x X u target r hr S ⟨a,rfl,rfl,h⟩ _ hX
  refine cU (P.obj h) λo ho hc hi=>?_
  exact kI ho hc P.own ⟨S,.refl,a,rfl,rfl,h⟩
def pList(C:Cx):ItP C (Nat×Nat) where
 nx:=λit H=>(lst H (.ref it.1)).map λvs=>(vs[it.2]?).map λv=>(v,(it.1,it.2+1))
 rel:=λρ s it a=>∃ l,ρ[it.1]? =ao l/\s.heap.IsListIter a l.a it.2
 T:="list_iterator"
 own:=by decide
 mono:=λh e i hk=>xEA h λl h1 h=>xEA h λo h2 h3=>⟨l,aT e h1,o,hk o h2,h3⟩
 obj:=λh=>xEA h λl h1 h=>cU h λo h2 h3 h4=>⟨o,h2,h3,by unfold aZ;rw[h4];simp [h3]⟩
 item:=λhh S R e k=>by
  refine xEA R λl h1 hit=>?_
  refine xEA (dr.mp e) λvs hl e=>?_
  refine xEA (dr.mp e) λv hv e=>?_
  cases e
  refine bV (b9 S (.ref h1) hl) λad xs q1 q2 q3=>?_
  cases q1
  refine xEA (q3.get hv) λu hu ru=>?_
  exact oW hit q2 (by simpa using hu) λh' hit2 hs=>k u h' _ hs ru λs' hs' q=>⟨l,h1,hs'▸hit2⟩
 fin:=λhh S R e k=>by
  refine xEA R λl h1 hit=>?_
  refine xEA (dr.mp e) λvs hl e=>?_
  refine bV (b9 S (.ref h1) hl) λad xs q1 q2 q3=>?_
  cases q1
  exact tf hh hit q2 (Array.getElem?_eq_none (by rw[q3.sz];exact getElem?_eq_none_iff.mp (Option.map_eq_none_iff.mp e))) λh' he=>k h' he
noncomputable abbrev bA(C:Cx):ItK C:=(pList C).it
def iL(f:EF):Lo->MH->(Nat×Nat->MH->Prop)->Prop:=λlo H Q=>f lo H λv H1=>Lf v.rf λi=>(∃ vs,lst H1 (.ref i)=ao vs)/\Q (i,0) H1
theorem IV.list(h:EV C r env e f):IV (bA C) r env e (iL f):=λs s s s s s n S F q=>h.run n S F q λS1 N1 d q=>q.elim λi j q=>by
  refine cU (d.toRef j) λl c a g=>?_;subst c;subst a
  refine xA q λz30 q=>?_;obtain⟨vs,i⟩:=z30
  refine bV (b9 S1 d i) λad p e k o=>?_
  cases e
  exact oz k ⟨S1.push _,N1.trans (.push _),⟨_,rfl,rfl,l,g,_,Heap.get?_push_size _ rfl,rfl,rfl⟩,λb m=>by exact rwL (show b=_ from m) (cM N1 S1 (bG _)),q⟩
def v4(again:Lo->MH->SK->Prop)(Q:SK):SK:=λfl lo H=>match fl with | .next=>again lo H Q | .cont=>again lo H Q | .brk=>Q .next lo H | .ret v=>Q (.ret v) lo H
def cZ(K:ItK C)(tgt:AF)(body:SF):Nat->K.σ->Lo->MH->SK->Prop
 |0,_,_,_,_=>fm
 |n+1,it,lo,H,Q=>K.nx it H λres H1=>match res with
  |none=>Q .next lo H1
  |some p=>tgt p.1 lo H1 λlo1 H2=>body lo1 H2 (v4 (cZ K tgt body n p.2) Q)
def aBv(C:Cx)(env:Env)(ρ0:aq Lc)(s0:bv)(Q:SK):qs->bv->Prop
 | .ok f,s'=>nV C env ρ0 s0 Q f s'
 | .error _,_=>fm
theorem Nx.stepI(N:Nx ρ0 W f ρ s)(I:NxI ρ X s g s')(m:∀ b,X b->f.heap.get? b=none):Nx ρ0 W f g s':=by
 have nX:∀ {b:dw}{o:Obj},f.heap.get? b=ao o->¬X b:=λe q=>by rw[m _ q]at e;cases e
 refine⟨N.pre.trans I.pre,λl j=>(xE N.pre λt i=>?_),λb o e k p=>I.kp b o (N.kp b o e k p) (N.own e k) (nX e),N.imm.trans I.imm,λb o e=>xE (N.al b o e) λo' c=>I.al b o' c (nX e)⟩;subst i
 refine xE I.pre λt' h=>?_;subst h
 rw[cz,qy]at j
 refine Or.elim (gb.mp j) (λq=>(N.new l (by simpa using q))) λq=>?_
 ·have n:=I.new l (by simpa using q)
  refine⟨?_,?_⟩
  ·cases e:f.heap.get? l.a with
   |none=>rfl
   |some o=>refine xE (N.al _ _ e) λo' c=>?_;rw[n.1]at c;cases c
  ·cases e:f.heap.get? l.d with
   |none=>rfl
   |some o=>refine xE (N.al _ _ e) λo' c=>?_;rw[n.2]at c;cases c
theorem Fm.nextI(F:Fm C env ρ s lo)(N:NxI ρ X s d s')(v:∀ b,Wr env b->¬X b):Fm C env d s' lo:=by
 refine xEA F.ns λm g p=>?_;obtain⟨o,r,D,y,A⟩:=g
 have k:=λb o a e=>N.kp b o e (F.own b a).1 (v b a)
 have own:∀ {b:dw}{o:Obj},s.heap.get? b=ao o->¬Own ρ b->¬Own d b:=by
  rintro b o a h ⟨l,w,n⟩
  refine xE N.pre λt f=>?_;subst f
  refine Or.elim (gb.mp w) (λq=>(h ⟨l,q,n⟩)) λq=>?_
  ·have:=N.new l (by simpa using q)
   rcases n with rfl |rfl
   ·rw[this.1]at a;cases a
   ·rw[this.2]at a;cases a
 exact⟨F.fn,F.gl,F.bi,⟨m,⟨o,r,D,k _ _ (.inl rfl) y,A⟩,λx i=>(p x i).mono N.pre N.imm⟩,λx i=>(cN (F.cl x i) λc o u j z B t=>⟨c,o,u,j,k _ _ (.inr ⟨x,j⟩) z,B,t.mono N.pre N.imm⟩),λb a=>⟨(xE (F.alv b a) λo e=>own e (F.own b a).1),(F.own b a).2⟩,F.dis,F.inj,λb a=>xE (F.alv b a) λo e=>⟨o,k b o a e⟩⟩
theorem NxI.owns{a:aq Lc}(I:NxI ρ X s a s'){b:dw}(c:s.heap.get? b=ao o)(h: ¬Own ρ b): ¬Own a b:=by
 rintro ⟨l,f,e⟩
 refine xE I.pre λt d=>?_;subst d
 refine Or.elim (gb.mp f) (λz=>(h ⟨l,z,e⟩)) λz=>?_
 ·have:=I.new l (by simpa using z)
  rcases e with rfl |rfl
  ·rw[this.1]at c;cases c
  ·rw[this.2]at c;cases c
def Apart(C:Cx)(env:Env)(ρ:aq Lc)(s0:bv)(X:dw->Prop):Prop:=∀ b,X b->s0.heap.get? b=none/\¬Own ρ b/\C.base.heap.get? b=none/\¬Wr env b
theorem Apart.two{a:bv}(h:Apart C env ρ a X):∀ b,X b->¬Own ρ b/\C.base.heap.get? b=none:=λb q=>⟨(h b q).2.1,(h b q).2.2.1⟩
theorem wH{K:ItK C}(P:AV C r env target tgt)(L:SVs C r env body v)(i:K.tg target/\K.need<=r):∀ (n:Nat){A:eu}{h s:bv}{ρ0 ρ:aq Lc}{H:MH}{lo:Lo}{it:K.σ}{x:bz}{X:dw->Prop}{Q:SK},Room r A->Nx ρ0 (Wr env) h ρ s->Sim C H ρ s->Fm C env ρ s lo-> K.rel ρ s it x X->Apart C env ρ h X->cZ K tgt v n it lo H Q->kN C.M A (.forLoop target x body [] env) (aBv C env ρ0 h Q) s:=λl=>by
 induction l with
 |zero=>
  intro _ _ _ _ _ _ _ _ _ _ _ _ _ _ _ _ _ e
  exact e.elim
 |succ n U=>
  intro A h s ρ0 ρ H lo it x X Q m N S F R a e
  refine mh (rwL (Around.under_of_weight rfl rfl) (ni (fg (E:=NoE) ?_ (λY Y z=>z) (λY Y z=>z.elim))))
  delta forTurn
  refine zzB (fh (zzB (ni (wmN (K.next i.2 m S R a.two e) λo s1 p=>?_))))
  cases p with
  |done B g q=>
   exact zzP ⟨rfl,mh (rwL (Around.under_of_weight rfl rfl) (zzB (ni (sQ (zzP ⟨B,N.stepI g (λb q=>(a b q).1),F.nextI g (λb j q=>(a b q).2.2.2 j),.next,q⟩)))))⟩
  |item B g J V q=>
   have d:Apart C env _ h X:=λb q=>xE (K.alive R b q) λo' k=>⟨(a b q).1,g.owns k (a b q).2.1,(a b q).2.2⟩
   refine zzB (wmN (K.lgo m B V i.1 d.two) λY s2 p=>(xAA p λS2 t G=>zzB (eU.run (α:=tj) (P m S2 ((F.nextI g (λb j q=>(a b q).2.2.2 j)).nextI t (λb j q=>(d b q).2.2.2 j)) (J.mono t.pre t.imm) q) λS3 O I q=>zzB (wmN (L m S3 I q) λf W p=>?_))))
   obtain⟨w,T,y,u,q⟩:=p
   have c:=O.trans T
   have f:=((N.stepI g (λb q=>(a b q).1)).stepI t (λb q=>(a b q).1)).trans c
   have D:∀ {q:cZ K tgt v n _ _ _ Q},kN C.M A (.forLoop target x body [] env) (aBv C env ρ0 h Q) W:=λ{q}=>
    U m f w y (K.mono G c.pre c.imm (λb o q k=>c.kp b o k (d b q).2.1 (a b q).2.2.2))
     (λb z=>xE (K.alive G b z) λo' k=>⟨(a b z).1,c.own k (d b z).2.1,(a b z).2.2⟩) q
   cases u with
   |next=>exact zzP ⟨rfl,D (q:=q)⟩
   |cont=>exact zzP ⟨rfl,D (q:=q)⟩
   |brk=>exact zzP ⟨w,f,y,.next,q⟩
   |ret u=>exact zzP ⟨w,f,y,.ret u,q⟩
def d6(K:ItK C)(fi:IF K)(tgt:AF)(bf:SF):SF:=λlo H Q=>fi lo H λit H1=>∃ n,cZ K tgt bf n it lo H1 Q
theorem SV.for_{K:ItK C}{pos}{i:IF K}(p:IV K r env iter i)(m:AV C r env target tgt)(l:SVs C r env body d)(c:K.tg target/\K.need<=r)(hs:∀ x,g4 iter env x=pure x):SV C r env (.For target iter body [] pos) (d6 K i tgt d):=λt t t t t t j S F e=>wpAny_For (wmN (p j S F e) λx s1 h=>wmN h λy s2 z=>by
  cases z with |mk S2 g s a q=>
  refine xE q λn q=>k6 (wH m l c n j g.wr S2 (F.nx g) s (λb q=>⟨(a b q).1,(a b q).2.1,(a b q).2.2,λhw=>?_⟩) q) λrr s3 k=>?_
  ·refine xE (F.alv b hw) λo o=>?_;cases (((a b q).1)▸o)
  ·cases rr with
   |ok f=>exact k
   |error _=>exact k.elim) hs
def runW(t:TF)(b:SF):Nat->Lo->MH->SK->Prop
 |0,_,_,_=>fm
 |n+1,lo,H,Q=>t lo H λc H1=>bif c then b lo H1 (v4 (runW t b n) Q) else Q .next lo H1
def fJ(t:TF)(b:SF):SF:=λlo H Q=>∃ n,runW t b n lo H Q
inductive WInv(C:Cx)(env:Env)(t:TF)(b:SF)(Q:SK)(ρ:aq Lc)(s:bv)(n:Nat)(s1:bv):Prop
 |mk {ρ1:aq Lc}{H1:MH}{lo1:Lo} (S:Sim C H1 ρ1 s1) (N:Nx ρ (Wr env) s ρ1 s1) (F:Fm C env ρ1 s1 lo1) (e:runW t b n lo1 H1 Q):WInv C env t b Q ρ s n s1
theorem SV.while_{pos}{b:SF}(m:TV C r env c t)(l:SVs C r env body b):SV C r env (.While c body [] pos) (fJ t b):=by
 refine λA s ρ H lo Q k S F e=>(xE e λn e=>wpAny_While (codeAny_whileLoop (WInv C env t b Q ρ s) ?_ n ⟨S,.refl,F,e⟩))
 intro n s1 p
 obtain⟨o,q,h,e⟩:=p
 cases n with
 |zero=>exact e.elim
 |succ n=>
  refine m.run k o h e λ{y u u u} S2 j e=>?_
  have a:=q.trans j.wr
  cases y with
  |false=>exact sQ ⟨S2,a,h.nx j,.next,e⟩
  |true=>
   refine wmN (l k S2 (h.nx j) e) λf s3 p=>?_
   obtain⟨f,g,d,i,e⟩:=p
   cases i with
   |next=>exact⟨n,md _,f,a.trans g,d,e⟩
   |cont=>exact⟨n,md _,f,a.trans g,d,e⟩
   |brk=>exact⟨f,a.trans g,d,.next,e⟩
   |ret i=>exact⟨f,a.trans g,d,.ret i,e⟩
def ALs(C:Cx)(r:Nat)(env:Env)(ts:aq Expr)(f:AF):Prop:=∀ ⦃A:eu⦄⦃s:bv⦄⦃ρ:aq Lc⦄⦃H:MH⦄⦃lo:Lo⦄⦃u:bz⦄⦃v:V⦄⦃Q:Lo->MH->Prop⦄,Room r A->Sim C H ρ s->Fm C env ρ s lo->VR ρ s.heap u v->f v lo H Q->
  bI C.M A (assignAll u ((fp ts env).map (·.2))) (eU C env (Wr env) ρ s Q) NoE s
theorem ALs.one(h:AV C r env t f)(a:(fp [t] env).map (·.2)= [ul t env]):ALs C r env [t] f:=by
 exact λA s ρ H lo u v Q b S F rv e=>(rwL a (h b S F rv e))
def iY(f g:AF):AF:=λv lo H Q=>f v lo H λlo1 H1=>g v lo1 H1 Q
theorem ALs.cons{a:aq Expr}(h:AV C r env t f)(hs:ALs C r env (t2::a) g)(k:(fp (t::t2::a) env).map (·.2)=ul t env::(fp (t2::a) env).map (·.2))(l:∃ x xs,(fp (t2::a) env).map (·.2)=x::xs):ALs C r env (t::t2::a) (iY f g):=by
 intro A s ρ H lo u v Q d S F rv e
 rw[k]
 have b:bI C.M A (do tX [u] (ul t env u);assignAll u ((fp (t2::a) env).map (·.2))) (eU C env (Wr env) ρ s Q) NoE s:=zzB (cb (eU.run (α:=tj) (h d S F rv e) λS1 c i q=>wmN (hs d S1 i (rv.nx c) q) λm m p=>p.from c))
 refine xEE l λx xs j=>?_
 rw[j]at b ⊢
 exact b
def cD(f:EF)(g:AF):SF:=λlo H Q=>f lo H λv H1=>g v lo H1 λlo' H2=>Q .next lo' H2
theorem SV.assigns{a:aq Expr}{pos}(h:EV C r env e f)(j:ALs C r env a g)(hs:swapsWithSole a e pos.line env=pure aL)(l:jt a e env=pure none):SV C r env (.Assign a e pos) (cD f g):=λm m m m m m c S F q=>wpAny_Assign_stores (h.run c S F q λS1 b i q=>eU.run (α:=tj) (j c S1 (F.nx b) i q) λS2 d k q=>⟨S2,b.wr.trans d,k,.next,q⟩) hs l
def upds:aq Str->aq V->Lo->bn Lo
 | [],[],lo=>ao lo
 |x::xs,v::vs,lo=>upds xs vs (upd lo x v)
 |_,_,_=>none
theorem VRs.rev(r:VRs ρ h c vs):VRs ρ h c.reverse vs.reverse:=by
 induction c generalizing vs with
 |nil=>cases r;exact .nil
 |cons u c d=>cases r with
  |cons a b=>simp only[List.reverse_cons];exact(d b).append (.cons a .nil)
def cL(names:aq Str)(f:EF):SF:=λlo H Q=>f lo H λv H1=>Lf v.tp λvs=>vs.length=names.length/\Lf (upds names.reverse vs.reverse lo) λlo'=>Q .next lo' H1
theorem SV.swap{pos}(h:EV C r env e f)(hs:swapsWithSole [.Tuple d k g] e pos.line env=pure aL)(I:jt [.Tuple d k g] e env=pure (ao c))(t:∀ x∈c,env.kindOf x=ao .local\/env.kindOf x=ao .cell):SV C r env (.Assign [.Tuple d k g] e pos) (cL c f):=λU U U U U U z S F q=>Assign_Tuple_swapped (h.run z S F q λS1 o K q=>q.elim λvs G q=>q.2.elim λlo1 P L=>by
  refine cN (K.toTup G) λa l T U w gt rs=>?_;subst w
  refine rwR q.1 (rwR rs.sz (unpackItems_tuple z.1 ⟨_,gt,rfl,_,rfl⟩ λh' D=>?_))
  have i:=yR D
  exact eU.run (α:=tj) ((by
   intro A Q l
   induction l with
   |nil=>
    intro m vs s ρ H lo j S F r e q _
    cases r with
    |nil=>refine cyS e λzq=>?_;subst zq;exact zzP ⟨S,.refl,F,q⟩
    |cons=>exact aM e
   |cons x l O=>
    intro m vs s ρ H lo j S F r e q t
    cases r with
    |nil=>exact aM e
    | @cons u m v vs a b=>
     exact(zzB (cb (bindName_ (gZ S F a (u9 (t x (.head _))) λU S1 o B=>wmN (O S1 B (b.nx o) e q (λy E=>t y (.tail _ E))) λU U p=>p.from o))):bI C.M A (do tX m (bindName env x u);qd (l.map λn=>bindName env n) m) _ _ s):∀{A:eu}{Q:Lo->MH->Prop}{l:aq Str},∀ {m:aq bz}{vs:aq V}{s:bv}{ρ:aq Lc}{H:MH}{lo j:Lo},Sim C H ρ s->Fm C env ρ s lo->VRs ρ s.heap m vs->upds l vs lo=ao j->Q j H-> (∀ x∈l,env.kindOf x=ao .local\/env.kindOf x=ao .cell)->bI C.M A (qd (l.map λn=>bindName env n) m) (eU C env (Wr env) ρ s Q) NoE s) (S1.ext i) ((F.nx o).nx (.ext i)) (rs.mono (cy _) (cY i)).rev P L (λx N=>t x (by simpa using N))) λS2 J R q=>⟨S2,(o.wr.trans (.ext i)).trans J,R,.next,q⟩) hs I
def sY(x:Str)(g:OpF)(f:EF):SF:=λlo H Q=>Lf (lo x) λa=>f lo H λb H2=>Lp (g a b H2) λv H1=>Q .next (upd lo x v) H1
theorem SV.aug{pos'}{pos}(h:EV C r env e f)(k:OpR C r (inplaceOp op) g)(b:env.kindOf x=ao .local\/env.kindOf x=ao .cell)(s:(x==("__classdict__" :Str))=aL):SV C r env (.AugAssign (.Name x pos') op e pos) (sY x g f):=λt t t t t t c S F q=>q.elim λa l q=>wpAny_AugAssign_Name (sA (b.imp_right .inl) s F l λu o=>h.run c S F q λS2 a j q=>bR.run (k c S2 (o.nx a) j q) λS3 d p q=>
  gZ S3 ((F.nx a).nx d) p (u9 b) λt i m n=>⟨i,(a.trans d).wr.trans m,n,.next,q⟩)
def aX(f:EF):SF:=λlo H Q=>f lo H λq H1=>Q .next lo H1
theorem SV.expr{pos}(h:EV C r env e f)(c:qi env=aL)(hs:qz e none pos.line env=pure aL):SV C r env (.Expr e pos) (aX f):=λg g g g g g b S F q=>wpAny_Expr_any (h.run b S F q λS1 a d q=>⟨S1,a.wr,F.nx a,.next,q⟩) c hs
def sNo:SF:=λq q q=>fm
theorem SVs.no{b:aq je}:SVs C r env b sNo:=λa a a a a a a a a q=>q.elim
theorem aD2{a:iz bz}(q:IsL s.heap l a n)(u: -1000000<k/\k<1000000)(i:jg k a.size=ao j)(h:Q () {s with heap:=s.heap.update l (Obj.mapSeq (·.setIfInBounds j v))}):
  bI (h9 prog w) A (setItem (.ref l) (.int k t) v) Q E s:=by
 have b:=q.isList
 refine zH (id b) λo f y x g=>?_
 have d:j<a.size:=by refine Or.elim (xU i) (λh=>?_) λh=>?_<;>omega
 delta setItem
 try with_reducible refine cb ?_
 first |refine zzB (zzP ?_) |skip
 refine zzB (wpAny_sequenceKey b.typeIs (by decide) ?_)
 refine zzB (et b.typeIs slot_list_setitem
  (e7 slot_list_setitem b.typeIs entry_list_setitem ?_ (args_list_setitem _ _ _)))
 refine(?_:bI _ _ (Builtin.List.listSubscript? (.int k t) >>=_) _ _ s)
 rcases xU i with ⟨c,e,_⟩ |⟨c,p,e,_⟩
 ·refine zzB (sb (fitsIndex_of c (by omega)) (xE (Int.eq_ofNat_of_zero_le c) λj' m=>?_));subst m
  have:=by simpa using e
  subst this
  refine zzB (zzB (wpAny_seqItemAt f g (zzP (rwL (Array.getElem?_eq_getElem d) (zzB (wpAny_setSeqItemAt f g ?_))))))
  first
   |exact zzB (zzP (zzP ⟨.none,rfl,zzP h⟩))
   |exact zzP ⟨.none,rfl,zzP h⟩
 ·refine zzB (sb (fitsIndex_neg c (by omega)) ?_)
  have o:=seqIndex_neg c p
  obtain⟨r,rfl⟩:∃ j:Nat,k=Int.negSucc j:=by
   cases k with
   |ofNat n=>exact ca c (lr.mpr (eO n))
   |negSucc n=>exact⟨n,rfl⟩
  refine zzB (zzB (zzB (gu f g (zzP (zzP ?_)))))
  rw[i]
  simp only[Option.bind_some,(Array.getElem?_eq_getElem d),pd]
  refine zzB (wpAny_setSeqItemAt f g ?_)
  first
   |exact zzB (zzP (zzP ⟨.none,rfl,zzP h⟩))
   |exact zzP ⟨.none,rfl,zzP h⟩
theorem Sim.put(S:Sim C H ρ s)(c:ρ[i]? =ao l)(j:H[i]? =ao m)(v:l.d=l.a)(g:s.heap.get? l.a=ao o)(h: ¬aZ o)(hs:Heap.SameBut l.a s.heap h')(u:∃ o,h'.get? l.a=ao o)(p:∀ vs,m≠ .ro vs)(t:∀ vs,m'≠ .ro vs)(r:Imm s.heap h'->OR C ρ {s with heap:=h',toks:=k} l m'):
  Sim C (H.set i m') ρ {s with heap:=h',toks:=k}/\∀ W,Nx ρ W s ρ {s with heap:=h',toks:=k}:=by
 have f:=dT hs g h
 refine⟨S.upd (s':= {s with heap:=h',toks:=k}) c j p (λb o e n=>(hs.2 b λq=>n (.inl q)).trans e) f rfl rfl (r f) t,
  λW=>⟨cy _,λl c=>by simp at c,λb o e g w=>(hs.2 b λq=>g ⟨l,fq c,.inl q⟩).trans e,f,λb o e=>?_⟩⟩
 by_cases q:b=l.a
 ·exact rwL q u
 ·exact⟨o,(hs.2 b q).trans e⟩
theorem mC.put(S:Sim C H ρ s)(O:mC H ρ s i l vs xs n)(f:iz bz->iz bz)(b:VRs ρ s.heap (f xs).toList vs'):Sim C (H.set i (.list vs')) ρ {s with heap:=s.heap.update l.a (Obj.mapSeq f),toks:=k}/\∀ W,Nx ρ W s ρ {s with heap:=s.heap.update l.a (Obj.mapSeq f),toks:=k}:=S.put O.g O.h O.d O.x (by simp [aZ]) (Heap.SameBut.update ..) ⟨_,O.x.update f⟩ (by intro _ h;cases h) (by intro _ h;cases h) λim=>⟨O.d,O.gn,f xs,_,O.x.update f,b.mono (cy _) im⟩
def dput(f:Int->bn V)(k:Int)(v:V):Int->bn V:=λx=>if x=k then ao v else f x
theorem pD(b:aq (Int×bz))(k x:Int)(v:bz):ou (stored b k v) x=if x=k then ao v else ou b x:=by
 delta stored
 by_cases f:b.any (λkv=>decide (kv.1=k))=be
 ·rw[cj f]
  by_cases d:x=k
  ·subst d
   rw[cj rfl]
   induction b with
   |nil=>simp at f
   |cons a t g=>
    by_cases c:a.1=x
    ·simp [ou,c]
    ·have:=g (by simpa [c] using f:t.any (λkv=>decide (kv.1=x))=be)
     simp only[ou,jf,c,mq,uo,decide_false]at this ⊢
     exact this
  ·rw[cc d]
   clear f
   induction b with
   |nil=>rfl
   |cons a t g=>
    by_cases c:a.1=k
    ·simp only[ou,jf,c,vp,uo]at g ⊢
     rw[(by simpa using λe=>d e.symm:decide (k=x)=aL)]
     exact g
    ·by_cases i:a.1=x
     ·refine rwR i ?_
      simp only[ou,jf,c,mq,uo,decide_true,pd]
     ·simp only[ou,jf,c,mq,uo,i,decide_false]at g ⊢
      exact g
 ·rw[cc f]
  delta ou
  rw[List.find?_append]
  by_cases d:x=k
  ·subst d
   have:b.find? (λkv=>decide (kv.1=x))=none:=by
    rw[List.find?_eq_none];exact λa c h=>(f (ms.mpr ⟨a,c,h⟩))
   simp [this]
  ·simp [d,(by simpa using λe=>d e.symm:decide (k=x)=aL)]
theorem Sim.setD{b:aq (Int×bz)}(S:Sim C H ρ s)(r:ρ[i]? =ao l)(y:H[i]? =ao (.dict n f))(p:l.d=l.a)(q:l.g=none)(c:s.heap.DictOf (rB C.prog C.w) l.a b)(z:b.length<=n)(A:∀ k,OV ρ s.heap (ou b k) (f k))(rv:VR ρ s.heap u v)(j:h'.DictOf (rB C.prog C.w) l.a (stored b k u))(hs:Heap.SameBut l.a s.heap h'):Sim C (H.set i (.dict (n+1) (dput f k v))) ρ {s with heap:=h',toks:=tk}/\∀ W,Nx ρ W s ρ {s with heap:=h',toks:=tk}:=by
 refine cN (id c) λo B E t D m F=>S.put r y p t (by delta aZ;exact rwL m id) hs (let ⟨o,_,_,e,_⟩:=j;⟨o,e⟩) (by intro _ h;cases h) (by intro _ h;cases h) λim=>⟨p,q,_,j,Nat.le_trans (stored_length_le _ _ _) (eH z),λx=>?_⟩
 rw[pD]
 delta dput
 by_cases c:x=k
 ·rw[cj c,cj c];exact rv.mono (cy _) im
 ·rw[cc c,cc c];exact(A x).mono (cy _) im
def setO(H:MH)(i:Nat)(k:Int)(v:V):MO->bn MH
 | .list vs=>if-1000000<k/\k<1000000 then(jg k vs.length).map λj=>H.set i (.list (vs.set j v)) else none
 | .dict n f=>if n<1000000 then ao (H.set i (.dict (n+1) (dput f k v))) else none
 |_=>none
def oSet(a b v:V)(H:MH):bn MH:=a.rf.bind λi=>(Ti b).bind λk=>H[i]?.bind (setO H i k v)
theorem VRs.set(r:VR ρ h u v):∀ {c:aq bz}{vs:aq V} (j:Nat),VRs ρ h c vs->VRs ρ h (c.set j u) (vs.set j v)
 |_,_,_,.nil=>.nil
 |_,_,0,.cons a b=>.cons r b
 |_,_,j+1,.cons a b=>.cons a (VRs.set r j b)
set_option tactic.hygienic true in
theorem xR{a b:bz}{K:tj->bv->Prop}(S:Sim C H ρ s)(ra:VR ρ s.heap a y)(rb:VR ρ s.heap b B)(rv:VR ρ s.heap u v)(e:oSet y B v H=ao H')(k:∀ s',Sim C H' ρ s'->(∀ W,Nx ρ W s ρ s')->K () s'):bI C.M A (setItem a b u) K E s:=by
 refine xEA (bt.mp e) λi I w=>xEA (bt.mp w) λkk h z=>xEA (bt.mp z) λm o c=>cU (ra.toRef I) λl Q d g=>?_;subst d
 refine VR.ti (P:=λb=>bI C.M A (setItem _ b u) _ _ s) rb h λt=>?_
 clear e w z
 cases m with
 |list vs=>
  replace c:(if-1000000<kk/\kk<1000000 then(jg kk vs.length).map λj=>H.set i (.list (vs.set j v)) else none)=ao H':=c
  split at c
  ·rename_i h
   refine xEA (dr.mp c) λj F q=>?_;subst q
   refine xEE (jM S g o) λxs n O=>aD2 O.x h (by exact rwL O.r.sz F) ?_
   have:=O.put (k:=s.toks) S (λxs=>xs.setIfInBounds j u) (by simpa using VRs.set rv j O.r)
   exact k _ this.1 this.2
  ·cases c
 |dict n f=>
  replace c:(if n<1000000 then ao (H.set i (.dict (n+1) (dput f kk v))) else none)=ao H':=c
  split at c
  ·refine cyS c λzq=>?_;subst zq
   refine xG (S.objs i _ l o g) λh1 J G D p N=>wpAny_setItem_pairs (q4 _ _ _ _) D (λh' t L=>?_) (by rw[dx];omega)
   have:=S.setD (tk:=s.toks+1) g o h1 J D p N rv t L
   exact k _ this.1 this.2
  ·cases c
 |_=>cases c
def jG(f1 f2:EF):AF:=λv lo H Q=>f1 lo H λa H1=>f2 lo H1 λb H2=>Lf (oSet a b v H2) λH3=>Q lo H3
theorem AV.sub(k:EV C r env f f1)(m:EV C r env g f2):AV C r env (.Subscript f g pos) (jG f1 f2):=by
 intro A s ρ H lo u v Q c S F rv e
 rw[assign_Subscript]
 exact zzB (cb (k.run c S F e λS1 b i e=>zzB (cb (m.run c S1 (F.nx b) e λS2 a h e=>e.elim λH3 l q=>
  zzB (fh (zzB (cb (xR S2 (i.nx a) h ((rv.nx b).nx a) l λn j d=>wpAny_release ⟨j,(b.trans a).wr.trans (d _),((F.nx b).nx a).nx (d _),q⟩))))))))
def sN:EF:=λq H Q=>Q (.ref H.length) (H++[.dict 0 λq=>Option.none])
theorem EV.dict0{pos}:EV C r env (.Dict [] [] pos) sN:=λA s ρ H lo Q b S F e=>
 wpAny_Dict_empty ⟨S.alloc {cls:=.type "dict",data:=.dict #[]} (.dict 0 λq=>Option.none) ⟨rfl,rfl,[],⟨_,#[],0,Heap.get?_push_size _ rfl,⟨rfl,rfl,rfl⟩,rfl,λq a=>by simp at a,.nil,by simp⟩,c5 _,λk=>trivial⟩,.alloc _,VR.ref (l:=⟨s.heap.objs.size,s.heap.objs.size,Option.none⟩) (by rw[<-S.len];simp),e⟩
noncomputable abbrev CF:=aq V->MH->EK->Prop
def Keeps(C:Cx)(f:bz):Prop:=∀ h:jy,(∀ b o,C.base.heap.get? b=ao o->h.get? b=ao o)->∃ k,(k=Keeper.frame\/k=Keeper.machine\/k=Keeper.boundFrame)/\nj C.M h (keeperOf f) k
structure CV(C:Cx)(r:Nat)(f:bz)(g:CF):Prop where
 keep:Keeps C f
 call:∀ {A:eu}{s:bv}{ρ:aq Lc}{H:MH}{us:aq bz}{vs:aq V}{Q:EK},Room r A->Sim C H ρ s->VRs ρ s.heap us vs->g vs H Q->
  bI C.M A (PySem.call f us) (bR C ρ s Q) NoE s
theorem cR{id:qr}:Keeps C (.builtin id):=λh q=>⟨.machine,.inr (.inl rfl),.now⟩
theorem dD{id:qr}:Keeps C (.type id):=λh q=>⟨.machine,.inr (.inl rfl),.now⟩
def lf(g:aq V->MH->bn (V×MH)):CF:=λvs H Q=>Lp (g vs H) Q
theorem CV.of(b:Keeps C f)(h:∀ {A:eu}{s:bv}{ρ:aq Lc}{H:MH}{a:aq bz}{vs:aq V}{v:V}{H':MH},Room r A->Sim C H ρ s->VRs ρ s.heap a vs->g vs H=ao (v,H')-> bI C.M A (PySem.call f a) (EPo C ρ s H' v) NoE s):CV C r f (lf g):=⟨b,λhr S hu q=>q.elim λp e q=>wmN (h hr S hu e) λc c p=>p.post q⟩
def mE(env:Env)(es:aq Expr):Prop:=(es= []\/∃ e rest,es=e::rest/\ee es env=(aL,iw e env)::ee rest env)/\∀ pos,(kr pos (ee es env)).any (·.1)=aL
theorem kQ(h:EVs C r env c fs)(j:mE env c)(i:Room r A)(S:Sim C H ρ s)(F:Fm C env ρ s lo)(e:fs lo H Q):bI C.M A (evalArgs f be (kr pos (ee c env)) []) (λa s'=>a.kw= []/\zG C ρ s Q a.pos s') NoE s:=by
 have b:=h (pos:=pos) i S F e
 rcases j.1 with rfl |⟨k,d,rfl,g⟩
 ·delta evalArgs
  exact zzB (wmN b λvs s' q=>zzB (zzP (cb (zzB (zzP (zzB (zzP (zzP ⟨rfl,q⟩))))))))
 ·rw[g]at b ⊢
  exact evalArgs_plain (wmN b λl l q=>⟨rfl,q⟩)
def Glo(C:Cx)(x:Str)(f:bz):Prop:=∃ mg,C.base.heap.Ns fu mg/\(mg x=ao f\/(mg x=none/\∃ mb,C.base.heap.Ns jN mb/\mb x=ao f))
theorem lW{h h':jy}{a:dw}(e:h.Ns a m)(f:∀ b o,h.get? b=ao o->h'.get? b=ao o):h'.Ns a m:=let ⟨o,d,g,c,q⟩:=e;⟨o,d,g,f _ _ c,q⟩
theorem jW(j:Glo C x f)(e:env.kindOf x=ao .globalImplicit)(g:(x==("__debug__" :Str))=aL)(S:Sim C H ρ s)(F:Fm C env ρ s lo)(h:Q f s):bI C.M A (iw (.Name x pos) env) Q NoE s:=by
 refine xEA j λmg b a=>?_
 have d:s.heap.Ns env.globals mg:=by exact rwL F.gl (lW b S.keep)
 refine Name_function_global F.fn e ?_ g
 rcases a with a |⟨a,k,c,i⟩
 ·exact loadGlobal_global d a h
 ·exact loadGlobal_builtin d a (by exact rwL F.bi (lW c S.keep)) i h
def aI(g:CF)(fs:EFs):EF:=λlo H Q=>fs lo H λvs H1=>g vs H1 Q
theorem nR(k:CV C r f g)(l:EVs C r env c fs)(b:mE env c)(j:Room r A)(S:Sim C H ρ s)(F:Fm C env ρ s lo)(r1:VRs ρ s.heap first d)(q:fs lo H λvs H1=>g (d++vs) H1 Q):bI C.M A (vw pos f first (kr pos (ee c env)) []) (bR C ρ s Q) NoE s:=lJ (by rw[b.2];rfl) k.keep (wmN (kQ l b j S F q) λa s1 p=>by
  obtain⟨ps,m⟩:=a
  obtain⟨e,h,i,rs,q⟩:=p
  subst e
  exact⟨h.keep,wmN (k.call j h ((r1.nx i).append rs) q) λn n p=>p.from i⟩)
theorem EV.call{b:aq Expr}(l:CV C r f g)(i:Glo C x f)(d:EVs C r env b fs)(a:mE env b)(j:env.kindOf x=ao .globalImplicit)(k:(x==("__debug__" :Str))=aL):EV C r env (.Call (.Name x h) b [] pos) (aI g fs):=λq q q q q q c S F e=>jl (jW i j k S F (nR l d a c S F .nil e))
theorem fC{a:Pos}{P:bz->bv->Prop}(g:ju o name env (iw o env)=iw o env)(l:((kr pos (ee args env)).all (λx=> !x.1) && (backToKw pos (vj [] env)).all (λx=>x.1.isSome) && decide (args.length+([]:aq ua).length+(if ([]:aq ua).isEmpty then 0 else 1)<30))=be)(f:(a.endLine==pos.line)=be)(h:bI C.M A (iw o env) (λov c=>∀ m,bI C.M A (getMethod ov name m) (λq b=>bI C.M A (vw pos q.1 q.2 (kr pos (ee args env)) []) Q E b) E c) E s):bI C.M A (iw (.Call (.Attribute o name a) args [] pos) env) Q E s:=by
 rw[arm_eval_Call,g]
 refine zzB (fg h (λov c i=>(zzB (fh ?_))) λn n e=>e)
 have d:methodCallForm (args.length+([]:aq ua).length) (kr pos (ee args env)) (backToKw pos (vj [] env))=be:=l
 have k:methodCallPos be o env a pos=pure pos:=by delta methodCallPos;simp [f]
 delta methodCall
 exact rwL d (zzB (cb (fg (i _) (λq b j=>(zzB (ji k j))) λn n e=>e)))
structure fM(env:Env)(o:Expr)(name:Str)(apos pos:Pos)(args:aq Expr):Prop where
 base:ju o name env (iw o env)=iw o env
 few:((kr pos (ee args env)).all (λx=> !x.1) && (backToKw pos (vj [] env)).all (λx=>x.1.isSome)
   && decide (args.length+([]:aq ua).length+(if ([]:aq ua).isEmpty then 0 else 1)<30))=be
 line:(apos.endLine==pos.line)=be
theorem oK{id:qr}{b:Pos}{K:bz->bv->Prop}(w:EV C r env o f)(k:fM env o name b pos args)(d:Slot "list" name id)(p:si (.builtin id)=pure (.type "method_descriptor"))(D:Room r A)(S:Sim C H ρ s)(F:Fm C env ρ s lo)(e:f lo H Q)(z:∀ v H1,Q v H1->∃ i vs,v.rf=ao i/\H1[i]? =ao (.list vs))(h:∀ {s1 c l i vs xs n H1},Sim C H1 c s1->Nx ρ noW s c s1->mC H1 c s1 i l vs xs n->Q (.ref i) H1->bI C.M A (vw pos (.builtin id) [.ref l.a] (kr pos (ee args env)) []) K NoE s1):bI C.M A (iw (.Call (.Attribute o name b) args [] pos) env) K NoE s:=fC (P:=λG G=>s7) k.base k.few k.line (w.run D S F e λS1 B y q E=>by
  refine jB (z _ _ q) λi vs u t=>cU (y.toRef u) λl m j g=>rwL j ?_
  subst m
  exact xEE (jM S1 g t) λxs n O=>getMethod_builtin ⟨_,O.x,rfl⟩ PySem.F.plainAttrs_list d p (λa e=>by cases e;exact⟨_,O.x,rfl⟩) (h S1 B O q))
def eM1(f g:EF)(k:Nat->aq V->V->MH->EK->Prop):EF:=λlo H Q=>f lo H λa H1=>Lf a.rf λi=>(∃ vs,H1[i]? =ao (.list vs))/\g lo H1 λv H2=>Lf (H2[i]?.bind MO.own) λvs=>k i vs v H2 Q
def cV(f g:EF):EF:=eM1 f g λi vs v H2 Q=>vs.length<1000000/\Q .none (H2.set i (.list (vs++[v])))
theorem EV.append{a:Pos}(u:EV C r env o f)(j:EV C r env e g)(p:fM env o "append" a pos [e])(l:kr pos (ee [e] env)= [(aL,iw e env)]):EV C r env (.Call (.Attribute o "append" a) [e] [] pos) (cV f g):=λv v v v v v h S F q=>oK u p PySem.F.slot_list_append PySem.F.type_list_append h S F q (λv H1 q=>q.elim λi s q=>⟨i,q.1.choose,s,q.1.choose_spec⟩) λS1 d O q=>by
  refine rwL l (PySem.P.append_list (j.run h S1 (F.nx d) q.2 λ{v s2 v v v} S2 c t q=>q.elim λvs m q=>(xEE (jM S2 (aT c.pre O.g) (lB m)) λxs n b=>?_)))
  have st:=b.put (k:=s2.toks) S2 (λxs=>xs.push _) (by simpa using b.r.append (.cons t .nil))
  exact⟨xs,n,by rw[dx,b.r.sz];omega,b.x,st.1,(d.trans c).trans (st.2 _),.none,q.2⟩
def oA(f g:EF):EF:=eM1 f g λi vs v H2 Q=>Lf (own H2 v) λws=>vs.length+ws.length<1000000/\Q .none (H2.set i (.list (vs++ws)))
theorem EV.extend{b:Pos}(H:EV C r env o f)(B:EV C r env e g)(E:fM env o "extend" b pos [e])(D:kr pos (ee [e] env)= [(aL,iw e env)]):EV C r env (.Call (.Attribute o "extend" b) [e] [] pos) (oA f g):=λI I I I I I y S F q=>oK H E PySem.F.slot_list_extend PySem.F.type_list_extend y S F q (λv H1 q=>q.elim λi t q=>⟨i,q.1.choose,t,q.1.choose_spec⟩) λS1 w O q=>by
  refine rwL D (PySem.P.extend_list (B.run y S1 (F.nx w) q.2 λ{I s2 I I I} S2 u G q=>q.elim λvs p q=>q.elim λws s q=>(xEE (jM S2 (aT u.pre O.g) (lB p)) λxs n d=>oC ((by
   exact xEA (bt.mp s) λi t s=>cU (G.toRef t) λl p hu g=>xEE (jM S2 g (lB s)) λxs n h=>⟨i,l,xs,n,p,hu,h⟩)) λi' l' c A I j m=>?_)));subst j
  have z:=d.r.sz;have v:=m.r.sz
  have st:=d.put (k:=s2.toks) S2 (λxs=>xs++c) (by simpa using d.r.append m.r)
  refine⟨l'.a,xs,c,n,A,by rw[dx];omega,by rw[dx];omega,?_,rfl,d.x,m.x,st.1,(w.trans u).trans (st.2 _),.none,q.2⟩
  rw[(by
   intro n h
   exact rwL dx (bw (zzM1 0x5a2807d42082083d00011ec3283d07da00007 [n] ⋯ h)):∀{n:Nat}(h:n<1000000),Builtin.List.listTooLong n=aL) (by omega)];simp
def eM0(f:EF)(k:Nat->aq V->MH->EK->Prop):EF:=λlo H Q=>f lo H λa H1=>Lf a.rf λi=>Lf (H1[i]?.bind MO.own) λvs=>vs.length<1000000/\k i vs H1 Q
def ePop(f:EF):EF:=eM0 f λi vs H1 Q=>Lf vs[vs.length-1]? λv=>Q v (H1.set i (.list (vs.eraseIdx (vs.length-1))))
theorem VRs.erase:∀ {c:aq bz}{vs:aq V} (j:Nat),VRs ρ h c vs->VRs ρ h (c.eraseIdx j) (vs.eraseIdx j)
 |_,_,_,.nil=>.nil
 |_,_,0,.cons a b=>b
 |_,_,j+1,.cons a b=>.cons a (VRs.erase j b)
theorem mC.same(O:mC H ρ s i l vs xs n)(e:H[i]?.bind MO.own=ao ws):ws=vs:=by
 rw[O.h]at e;exact(Option.some.inj e).symm
set_option tactic.hygienic true in
theorem EV.pop{a:Pos}(p:EV C r env o f)(m:fM env o "pop" a pos []):EV C r env (.Call (.Attribute o "pop" a) [] [] pos) (ePop f):=λy y y y y y v S F q=>oK p m PySem.F.slot_list_pop PySem.F.type_list_pop v S F q (λv H1 q=>q.elim λi g q=>q.elim λvs d y=>⟨i,vs,g,lB d⟩) λ{s1 u l i vs c n H1} S1 w O q=>by
  refine q.elim λi' g q=>cyS g λzq=>?_;subst zq
  refine q.elim λws j q=>?_
  obtain rfl:=O.same j
  refine q.2.elim λv d s=>xEA (O.r.get d) λu hu h=>?_
  have b:=O.r.sz
  refine PySem.P.pop_list O.x (by rw[b];simpa using hu) ?_ (by rw[dx];omega)
  have st:=O.put (k:=s1.toks) S1 (vs':=ws.eraseIdx (ws.length-1)) (λys=>ys.eraseIdxIfInBounds (c.size-1)) (by
   rw[b]
   have e:(c.eraseIdxIfInBounds (ws.length-1)).toList=c.toList.eraseIdx (ws.length-1):=by
    unfold Array.eraseIdxIfInBounds
    split
    ·rw[Array.toList_eraseIdx]
    ·rename_i t;rw[List.eraseIdx_of_length_le (by simp;exact zzM1 0x1254a9207da01a40a2907d07da01000107 [ws.length,c.size] ⋯ t)]
   exact rwL e (VRs.erase (ws.length-1) O.r))
  exact⟨st.1,w.trans (st.2 _),h.nx (st.2 noW),s⟩
def nC(vs:aq V):bn (aq Int):=vs.mapM Ti
theorem aAt(r:VRs ρ h us vs):∀ {is:aq Int},nC vs=ao is->∃ ts:aq Tok,ts.length=is.length/\us=(is.zip ts).map λx=>Value.int x.1 x.2:=r.ind (P:=λus vs=>∀ {is:aq Int},nC vs=ao is->∃ ts:aq Tok,ts.length=is.length/\us=(is.zip ts).map λx=>Value.int x.1 x.2) (λe=>by exact cxS e ⟨[],rfl,rfl⟩) λ{u us v vs} a q c {is} e=>by
  simp only[nC,fe,uy,bt,pure_def,Option.some.injEq]at e
  refine aC6 e λi d js f b=>?_;clear e;subst b
  exact xEA (c f) λts g j=>VR.ti (P:=λu=>∃ ts:aq Tok,ts.length=(i::js).length/\u::_=((i::js).zip ts).map λx=>Value.int x.1 x.2) a d λt=>⟨t::ts,cu (·+1) g,cu (Value.int i t::·) j⟩
def pTup(C:Cx):ItP C (aq V×Nat) where
 nx:=λit H=>ao ((it.1[it.2]?).map λv=>(v,(it.1,it.2+1)))
 rel:=λρ s it a=>∃ t xs n,s.heap.get? t=ao {cls:=.type "tuple",data:=.seq xs n}/\VRs ρ s.heap xs.toList it.1/\vf s.heap a t it.2
 T:="tuple_iterator"
 own:=by decide
 mono:=λh e i hk=>dQ h λt xs n h1 h2 h=>xEA h λo h3 h4=>⟨t,xs,n,i _ _ h1 (by simp [aZ]),h2.mono e i,o,hk o h3,h4⟩
 obj:=λh=>dQ h λt xs n h1 h2 h=>cU h λo h3 h4 h5=>⟨o,h3,h4,by unfold aZ;rw[h5];simp [h4]⟩
 item:=λhh S R e k=>by
  refine dQ R λt xs n h1 h2 hit=>?_
  refine xEA (dr.mp (Option.some.inj e)) λv hv e=>?_
  cases e
  refine xEA (h2.get hv) λu hu ru=>?_
  exact next_tuple_item hit ⟨_,h1,rfl,n,rfl⟩ (by simpa using hu) λh' hit2 hs=>k u h' _ hs ru λs' hs' im=>⟨t,xs,n,hs'▸im _ _ h1 (by simp [aZ]),hs'▸h2.mono (cy _) im,hs'▸hit2⟩
 fin:=λhh S R e k=>dQ R λt xs n h1 h2 hit=>
  next_tuple_end hh hit ⟨_,h1,rfl,n,rfl⟩ (Array.getElem?_eq_none (by rw[h2.sz];exact getElem?_eq_none_iff.mp (Option.map_eq_none_iff.mp (Option.some.inj e)))) λh' he=>k h' he
noncomputable abbrev jE(C:Cx):ItK C:=(pTup C).it
def iT(f:EF):Lo->MH->(aq V×Nat->MH->Prop)->Prop:=λlo H Q=>f lo H λv H1=>Lf v.tp λvs=>Q (vs,0) H1
theorem IV.tuple(h:EV C r env e f):IV (jE C) r env e (iT f):=λo o o o o o l S F q=>h.run l S F q λS1 d i q=>q.elim λvs m q=>by
  refine cN (i.toTup m) λa j n o c g rs=>rwL c ?_
  refine iter_tuple ⟨_,g,rfl,n,rfl⟩ ⟨S1.push _,d.trans (.push _),⟨_,rfl,rfl,a,j,n,fH _ _ _ _ g (by simp [aZ]),rs.mono (cy _) (fH _ _),_,Heap.get?_push_size _ rfl,rfl,rfl⟩,λb k=>by exact rwL (show b=_ from k) (cM d S1 (bG _)),q⟩
def pRng(C:Cx):ItP C (Int×Nat×Int) where
 nx:=λit H=>ao (match it with | (x,n+1,c)=>ao (.int x,(x+c,n,c)) | (_,0,_)=>none)
 rel:=λρ s it a=>IsRangeIter s.heap a it.1 it.2.1 it.2.2
 T:="range_iterator"
 own:=by decide
 mono:=λh1 e i hk=>hk _ h1
 obj:=λh1=>⟨_,h1,rfl,by simp [aZ]⟩
 item:=by
  rintro A s ρ H ⟨x,n,c⟩ a v it' Q hh S h1 e k
  cases n with
  |succ n=>
   cases e
   refine wpAny_pyNext_range_item h1 (by simp) λh' h2 hs=>k _ h' _ hs (.int _ _) λs' hs' im=>?_
   subst hs'
   simpa using h2
  |zero=>cases e
 fin:=by
  rintro A s ρ H ⟨x,n,c⟩ a Q hh S h1 e k
  cases n with
  |succ n=>cases e
  |zero=>exact wpAny_pyNext_range_end hh h1 (by simp) λh' he=>k h' he
noncomputable abbrev d8(C:Cx):ItK C:=(pRng C).it
def V.rn:V->bn (Int×Int×Int) | .rng a b c=>ao (a,b,c) |_=>Option.none
theorem VR.toRng(r:VR ρ h u v)(e:v.rn=ao p):∃ a t1 t2 t3,u= .ref a/\IsRange h a p.1 p.2.1 p.2.2 t1 t2 t3:=by
 cases v with
 |rng a b c=>exact cxSP e r.inv
 |_=>first |exact aM e |cases e
def rOk(a b c:Int):cw:=decide (-1000000<a) && decide (a<1000000) && decide (-1000000<b) && decide (b<1000000) && (c==1 || c== -1)
def sZ(a b c:Int):Nat:=bif c==1 then(b-a).toNat else(a-b).toNat
theorem rSz(a b:Int):Builtin.Range.rangeSize a b 1=((b-a).toNat:Int):=by
 unfold Builtin.Range.rangeSize
 rw[cj (by decide)]
 by_cases q:a<b
 ·rw[cj q,Int.ediv_one,Int.sub_add_cancel]
  exact(Int.toNat_of_nonneg (gx (ip q))).symm
 ·rw[cc q,Int.toNat_of_nonpos (Int.sub_nonpos_of_le (lr.mp q))];rfl
theorem rSzM(a b:Int):Builtin.Range.rangeSize a b (-1)=((a-b).toNat:Int):=by
 unfold Builtin.Range.rangeSize
 rw[cc (by decide),show-(-1:Int)=1 from rfl]
 by_cases q:b<a
 ·rw[cj q,Int.ediv_one,Int.sub_add_cancel]
  exact(Int.toNat_of_nonneg (gx (ip q))).symm
 ·rw[cc q,Int.toNat_of_nonpos (Int.sub_nonpos_of_le (lr.mp q))];rfl
theorem zU{a b:Int}(h:rOk a b c=be):Builtin.Range.rangeSize a b c=(sZ a b c:Int)/\Builtin.Range.small a b c=be/\sZ a b c<2000000:=by
 refine xAAAA ((by
  have h1:=cp.mp h
  have e:=cp.mp h1.1
  have f:=cp.mp e.1
  have g:=cp.mp f.1
  exact⟨cn g.1,cn g.2,cn f.2,cn e.2,(Bool.or_eq_true_iff.mp h1.2).imp pz pz⟩)) λh1 e f g i=>?_
 rcases i with rfl |rfl
 ·have d:=A10 h1 g
  refine⟨rSz a b,?_,d⟩
  unfold Builtin.Range.small
  rw[rSz]
  unfold Builtin.Range.rangeFitsLong
  simp;exact A11 e f d
 ·have d:=(by exact zzI 0x10941f61920f41f68a68044000a41f687b0ca0f450021dec3283d07da00087 [a,b] ⋯:a<(1000000:Int)->(-(1000000:Int))<b->(Int.toNat (a-b))<(2000000:Nat)) e f
  refine⟨rSzM a b,?_,d⟩
  unfold Builtin.Range.small
  rw[rSzM]
  unfold Builtin.Range.rangeFitsLong
  simp;exact (by exact zzI 0x4040404050281108881110215124a52120202020221110488a048408544a2a4848820820820820820820f41f69002a6822082082082082082083d142140f40f69a01083188820820820820820820f41f40f69a01080080f69a010a822082082082082082083d142148820820820820820820f41f69002a6822082082082082082083d142148820820820820820820f41f68002a2822082082082082082083d14214514507d86483d07da29a011000077b0ca0f41f690021e807da1ec3283d140087 [a,b] ⋯:(-(1000000:Int))<a->b<(1000000:Int)->(Int.toNat (a-b))<(2000000:Nat)->(((((-(9223372036854775808:Int))<=a)/\(a<(9223372036854775808:Int)))/\(((-(9223372036854775808:Int))<=b)/\(b<(9223372036854775808:Int))))/\(((-(9223372036854775808:Int))<=(max (a-b) (0:Int)))/\((max (a-b) (0:Int))<(9223372036854775808:Int))))/\(((max (a-b) (0:Int))=(0:Int))\/(((-(9223372036854775808:Int))<=b)/\(b<(9223372036854775808:Int))))) h1 g d
def iR(f:EF):Lo->MH->(Int×Nat×Int->MH->Prop)->Prop:=λlo H Q=>f lo H λv H1=>Lf v.rn λp=>rOk p.1 p.2.1 p.2.2=be/\Q (p.1,sZ p.1 p.2.1 p.2.2,p.2.2) H1
theorem IV.range(h:EV C r env e f):IV (d8 C) r env e (iR f):=λn n n n n n l S F q=>h.run l S F q λS1 c i q=>q.elim λp j q=>by
  refine xAA (zU q.1) λk1 d m=>pB (i.toRng j) λa t1 t2 t3 a g=>?_;subst a
  exact wpAny_pyIter_range g d (rwL k1 (zF.mk (S1.push _) (c.trans (.push _)) ⟨_,rfl,rfl,show IsRangeIter _ _ _ _ _ from Heap.get?_push_size _ rfl⟩ (λb k=>by exact rwL (show b=_ from k) (cM c S1 (bG _))) q.2))
theorem VRs.a1(r:VRs ρ h c [x]):∃ u,c= [u]/\VR ρ h u x:=by cases r with |cons a b=>cases b;exact⟨_,rfl,a⟩
theorem VRs.a2(r:VRs ρ h d [x,y]):∃ u v,d= [u,v]/\VR ρ h u x/\VR ρ h v y:=by cases r with |cons a b=>exact xEA b.a1 λv e c=>⟨_,v,by rw[e],a,c⟩
def Tis(vs:aq V):bn (aq Int):=vs.mapM Ti
theorem VRs.ints{a:aq bz}(r:VRs ρ h a vs)(e:Tis vs=ao is):∃ b:aq Tok,b.length=is.length/\a=(is.zip b).map λx=>Value.int x.1 x.2:=aAt r e
theorem tcons{α:Type}{l:aq α}(e:l.length=n+1):∃ a t,l=a::t/\t.length=n:=by
 cases l with
 |nil=>exact ca e.symm (Nat.succ_ne_zero _)
 |cons a t=>exact⟨a,t,rfl,Nat.succ.inj e⟩
theorem ts2{a b:Int}(e:d.length= [a,b].length)(h:c=(([a,b]:aq Int).zip d).map λx=>Value.int x.1 x.2):∃ t u,c= [.int a t,.int b u]:=by
 refine jB (tcons e) λt l z f=>?_;subst z
 refine jB (tcons f) λu l z g=>?_;subst z
 exact⟨t,u,(rwR (List.eq_nil_of_length_eq_zero g) h)⟩
theorem ts3{a b:Int}(e:f.length= [a,b,c].length)(h:d=(([a,b,c]:aq Int).zip f).map λx=>Value.int x.1 x.2):∃ t u v,d= [.int a t,.int b u,.int c v]:=by
 refine jB (tcons e) λt l z i=>?_;subst z
 refine jB (tcons i) λu l z j=>?_;subst z
 refine jB (tcons j) λv l z g=>?_;subst z
 exact⟨t,u,v,(rwR (List.eq_nil_of_length_eq_zero g) h)⟩
theorem aFr{α d:Type}{F:aq α->bn d}{l:aq α}{b:d}(e:F l=ao b)(g:F []=none)(f:∀ a c t,F (a::c::t)=none):∃ a,l= [a]:=by
 cases l with
 |nil=>cases (g▸e)
 |cons a l=>cases l with
  |nil=>exact⟨_,rfl⟩
  |cons c l=>rw[f]at e;cases e
theorem tQ{α f:Type}{F:aq α->bn f}{l:aq α}{b:f}(e:F l=ao b)(g:F []=none)(h:∀ a,F [a]=none)(i:∀ a c d t,F (a::c::d::t)=none):∃ a c,l= [a,c]:=by
 cases l with
 |nil=>cases (g▸e)
 |cons a l=>exact xEA (xE (aFr (F:=λl=>F (a::l)) e (h a) (i a)) λc e=>⟨c,e,trivial⟩) λc e q=>⟨a,c,by rw[e]⟩
theorem aFq{α f:Type}{F:aq α->bn f}{l:aq α}{b:f}(e:F l=ao b)(h:F []=none)(i:∀ a,F [a]=none)(k:∀ a c,F [a,c]=none)(j:∀ a c d g t,F (a::c::d::g::t)=none):∃ a c d,l= [a,c,d]:=by
 cases l with
 |nil=>cases (h▸e)
 |cons a l=>exact xEE (tQ (F:=λl=>F (a::l)) e (i a) (k a) (j a)) λc d e=>⟨a,c,d,by rw[e]⟩
def rngF(H:MH)(is:aq Int):bn (V×MH):=match is with
 | [n]=>ao (.rng 0 n 1,H)
 | [a,b]=>ao (.rng a b 1,H)
 | [a,b,c]=>if c= -1 then ao (.rng a b c,H) else none
 |_=>none
def b7:CF:=lf λvs H=>(Tis vs).bind (rngF H)
theorem l123{α f:Type}{F:aq α->bn f}{l:aq α}{b:f}(e:F l=ao b)(h:F []=none)(i:∀ a c d g t,F (a::c::d::g::t)=none):(∃ a,l= [a])\/(∃ a c,l= [a,c])\/∃ a c d,l= [a,c,d]:=by
 cases l with
 |nil=>cases (h▸e)
 |cons a l=>cases l with
  |nil=>exact .inl ⟨_,rfl⟩
  |cons c l=>cases l with
   |nil=>exact .inr (.inl ⟨_,_,rfl⟩)
   |cons d l=>cases l with
    |nil=>exact .inr (.inr ⟨_,_,_,rfl⟩)
    |cons g l=>rw[i]at e;cases e
set_option tactic.hygienic true in
theorem CV.range:CV C r (.type "range") b7:=.of dD λ{A s ρ H f vs v H'} n S rs e=>by
 refine xEA (bt.mp e) λis m e=>xEA (rs.ints m) λts j k=>Or.elim (l123 e rfl λq q q q q=>rfl) (λz=>?_) λz=>Or.elim z (λz=>?_) λz=>?_
 ·refine xE z λa z=>?_;subst z;exact xE ((by
   intro g a f e h
   match g,e with
   | [t],_=>exact⟨t,h⟩:∀{g:aq Tok}{a:Int}{f:aq bz}(e:g.length= [a].length)(h:f=(([a]:aq Int).zip g).map λx=>Value.int x.1 x.2),∃ t,f= [.int a t]) j k) λt i=>rwL i (cxSP e (call_range_1 ⟨ρ,(S.push _).toks _,(Nx.push _).trans (.toks _),.rng (Heap.get?_push_size _ rfl)⟩))
 ·refine xEE z λa b z=>?_;subst z;exact xEE (ts2 j k) λt u d=>rwL d (cxSP e (call_range_2 ⟨ρ,(S.push _).toks _,(Nx.push _).trans (.toks _),.rng (Heap.get?_push_size _ rfl)⟩))
 ·refine xF z λa b c z=>?_;subst z;refine xF (ts3 j k) λt u w d=>rwL d ?_
  replace e:=show (if _ then _ else _)=_ from e
  split at e
  ·rename_i l
   subst l
   exact cxSP e (call_range_3 (by decide) ⟨ρ,(S.push _).toks _,(Nx.push _).trans (.toks _),.rng (Heap.get?_push_size _ rfl)⟩ (.inl (PyProof.noPylong_small (by decide))))
  ·exact aM e
theorem EPo.ext(S:Sim C H ρ s)(a:∀ b o,s.heap.get? b=ao o->h'.get? b=ao o)(rv:VR ρ s.heap x v):EPo C ρ s H v x {s with heap:=h',toks:=k}:=⟨ρ,S.ext a,.ext a,rv.mono (cy _) (cY a)⟩
def one(vs:aq V):bn V:=match vs with | [v]=>ao v |_=>none
theorem jO{a:aq bz}(r:VRs ρ h a vs)(e:one vs=ao v):∃ u,a= [u]/\VR ρ h u v:=by
 refine xE (aFr e rfl λq q q=>rfl) λa z=>?_;subst z;exact cxS e r.a1
def cLen:CF:=lf λvs H=>(one vs).bind λv=>(lst H v).bind λxs=>if xs.length<1000000 then ao (.int xs.length,H) else none
theorem CV.len:CV C r (.builtin "len") cLen:=.of cR λ{A s ρ H k vs v H'} j S rs e=>by
 refine xEA (bt.mp e) λx d e=>xEA (bt.mp e) λxs c e=>xEA (jO rs d) λu b f=>rwL b ?_
 split at e
 ·first |exact aM e |cases e
  refine bV (b9 S f c) λad i a g h=>rwL a ?_
  have:=h.sz
  exact call_len_list g (by omega) (rwL this (.tok S (.int _ _)))
 ·first |exact aM e |cases e
def c2F(f:Int->Int->Int)(H:MH)(is:aq Int):bn (V×MH):=match is with | [a,b]=>ao (.int (f a b),H) |_=>none
def c2(f:Int->Int->Int):CF:=lf λvs H=>(Tis vs).bind (c2F f H)
theorem CV.c2(h:∀ {A:eu}{s:bv}{a b:Int}{t u:Tok}{Q:bz->bv->Prop},A.handled=none->(∀ h' tk t,(∀ b o,s.heap.get? b=ao o->h'.get? b=ao o)->Q (.int (f a b) t) {s with heap:=h',toks:=tk})->
  bI C.M A (PySem.call (.builtin x) [.int a t,.int b u]) Q NoE s):CV C r (.builtin x) (c2 f):=CV.of cR λ{A s ρ H l vs v H'} k S rs e=>by
 refine xEA (bt.mp e) λis d e=>xEA (rs.ints d) λts i j=>xEE (tQ e rfl (λq=>rfl) λq q q q=>rfl) λa b z=>?_;subst z
 exact xEE (ts2 i j) λt u c=>rwL c (cxSP e (h k.1 λh' tk t g=>.ext S g (.int _ _)))
def mU:CF:=c2 max
theorem CV.max:CV C r (.builtin "max") mU:=CV.c2 λ{A s a b t u Q} d k=>max_two_ints d λh' tk c=>by
 by_cases q:b>a
 ·rw[cj q];have:=k h' tk u c;rwa [mz (ip q)]at this
 ·rw[cc q];have:=k h' tk t c;rwa [n4 (lr.mp q)]at this
def qW:CF:=c2 min
theorem CV.min:CV C r (.builtin "min") qW:=CV.c2 λ{A s a b t u Q} d k=>min_two_ints d λh' tk c=>by
 by_cases q:b<a
 ·rw[cj q];have:=k h' tk u c;rwa [mc (ip q)]at this
 ·rw[cc q];have:=k h' tk t c;rwa [Int.min_eq_left (lr.mp q)]at this
def y7:CF:=lf λvs H=>(one vs).bind λv=>(lst H v).bind λxs=>(nC xs).map λis=>(.int is.sum,H)
theorem CV.sum:CV C r (.builtin "sum") y7:=.of cR λ{A s ρ H p vs v H'} n S rs e=>by
 refine xEA (bt.mp e) λx i e=>xEA (bt.mp e) λxs g e=>xEA (dr.mp e) λis h e=>cxP e (xEA (jO rs i) λu a l=>rwL a ?_)
 refine bV (b9 S l g) λad k d m o=>rwL d ?_
 refine xEA (aAt o h) λts f b=>?_
 have c:k=intItems (is.zip ts).toArray:=by
  apply Array.toList_inj.mp
  rw[b]
  simp [intItems]
 refine sum_intListG n.1 (rwR c m) λh' tk q j=>?_
 have:preSum (numAt (is.zip ts).toArray) (is.zip ts).toArray.size=is.sum:=by
  rw[preSum_eq,mn (by simp)]
  congr 1
  rw[List.map_fst_zip (se f.symm)]
 exact rwL this (.ext S j (.int _ _))
def cSet:CF:=lf λvs H=>if vs.isEmpty then ao (.ref H.length,H++[.eset]) else none
set_option tactic.hygienic true in
theorem CV.set:CV C r (.type "set") cSet:=.of dD λ{A s ρ H b vs v H'} a S rs e=>by
 split at e
 ·first |exact aM e |cases e
  cases rs with
  |nil=>exact call_set_0 λled=>⟨_,S.alloc _ .eset ⟨rfl,rfl,_,_,Heap.get?_push_size _ rfl,by cases led<;>decide⟩,.alloc _,VR.ref S.last⟩
  |cons _ _=>rename_i h;cases h
 ·first |exact aM e |cases e
theorem Sim.grown(S:Sim C H ρ s)(a:∀ b o,s.heap.get? b=ao o->h'.get? b=ao o)(c:IsL h' s.heap.objs.size xs n)(d:VRs ρ h' xs.toList vs):EPo C ρ s (H++[.list vs]) (.ref H.length) (.ref s.heap.objs.size) {s with heap:=h',toks:=k}:=let g:=S.grow (l:=⟨s.heap.objs.size,s.heap.objs.size,none⟩) (m:=.list vs) a (bG _) (bG _) rfl ⟨rfl,rfl,xs,n,c,d.mono (jr _ _) (.refl _)⟩
 ⟨_,g.1,g.2 _,VR.ref S.last⟩
def m8(a c:Int):Nat->aq V
 |0=>[]
 |n+1=>.int a::m8 (a+c) c n
theorem vP:∀ (n:Nat) (a c:Int) (d:aq bz),d.length=n->(∀ (i:Nat) (u:bz),d[i]? =ao u->∃ t,u=Value.int (a+(i:Int)*c) t)->VRs ρ h d (m8 a c n)
 |0,a,c,[],_,_=>VRs.nil
 |0,a,c,_::_,b,_=>by simp at b
 |n+1,a,c,[],b,_=>by simp at b
 |n+1,a,c,u::d,b,hu=>by
  refine xE (hu 0 u rfl) λt e=>?_
  simp at e
  refine rwL e (VRs.cons (VR.int _ _) (vP n (a+c) c d (by simpa using b) λi u h=>(xE (hu (i+1) u (by simpa using h)) λt e=>⟨t,e.trans ?_⟩)))
  congr 1
  rw[kz]
  congr 1
  simp only[Int.natCast_add,Int.add_mul]
  omega
def aHo(vs:aq V)(H:MH):bn (V×MH):=(one vs).bind λv=>match v.rn with
 |some p=>if rOk p.1 p.2.1 p.2.2 then mkL (m8 p.1 p.2.2 (sZ p.1 p.2.1 p.2.2)) H else none
 |none=>(lst H v).bind λxs=>mkL xs H
def cList:CF:=lf aHo
set_option tactic.hygienic true in
theorem CV.list:CV C r (.type "list") cList:=.of dD (by
 intro A s ρ H j vs v H' q S rs e
 refine xEA (bt.mp e) λx E e=>xEA (jO rs E) λu c l=>rwL c ?_
 split at e
 ·rename_i p D
  split at e
  ·rename_i f
   refine jR e λhlen e=>?_
   cases e
   refine xAA (zU f) λk1 w J=>pB (l.toRng D) λa t1 t2 t3 k g=>?_;subst k
   exact call_list_range q.1 g w k1 (by omega) λh' tk m I b z a=>S.grown b z (vP _ _ _ _ (by simpa using a.1) λi u hu=>a.2 i u (by simpa using hu))
  ·first |exact aM e |cases e
 ·refine xEA (bt.mp e) λxs y e=>jR e λhlen e=>?_
  cases e
  refine bV (b9 S l y) λad K d h t=>?_;subst d;obtain⟨o,B,G,n,F⟩:=h
  exact call_list_seq ad (.inl rfl) B G F (λh' I b x=>S.grown b x (t.mono (cy _) (cY b))) (by exact rwL dx (zzM2 0x950820820f69028a411dec3283d07da00007 [xs.length,K.size] ⋯ hlen t.sz)):∀{A:eu}{s:bv}{ρ:aq Lc}{H:MH}{j:aq bz}{vs:aq V}{v:V}{H':MH}(q:Room r A)(S:Sim C H ρ s)(rs:VRs ρ s.heap j vs)(e:aHo vs H=ao (v,H')),bI C.M A (PySem.call (.type "list") j) (EPo C ρ s H' v) NoE s)
def PV(C:Cx)(r:Nat)(env:Env)(e:bn Expr)(f:EF):Prop:=∀ ⦃A:eu⦄⦃s:bv⦄⦃ρ:aq Lc⦄⦃H:MH⦄⦃lo:Lo⦄⦃Q:EK⦄,Room r A->Sim C H ρ s->Fm C env ρ s lo->f lo H Q->
  bI C.M A (evalPart e env) (bR C ρ s Q) NoE s
theorem PV.none:PV C r env Option.none (eK .none):=λa a a a a a a S a q=>zzP (.here S .none q)
theorem PV.some(h:EV C r env e f):PV C r env (Option.some e) f:=h
def prt:V->bn (bn Int)
 | .none=>ao none
 | .int i=>ao (ao i)
 |_=>none
theorem yB(r:VR ρ h u v)(e:prt v=ao p):IsPart u p:=by
 cases v with
 |none=>refine cxS e ?_;cases(show u= .none from r.inv);exact .none
 |int=>exact cxS e (xE r.inv λt a=>rwL a (.int _ _))
 |_=>first |exact aM e |cases e
def zX(vs:aq V)(lo hi st:bn Int):aq V:=(sliceRange (qj lo hi st vs.length).1 (qj lo hi st vs.length).2.1 (qj lo hi st vs.length).2.2).filterMap (vs[·]?)
theorem VRs.pick{b:aq bz}(rs:VRs ρ h b vs):∀ a:aq Nat,VRs ρ h (a.filterMap (b[·]?)) (a.filterMap (vs[·]?))
 | []=>.nil
 |i::a=>by
  simp only[List.filterMap_cons]
  cases c:vs[i]? with
  |none=>
   have:b[i]? =none:=by
    rw[getElem?_eq_none_iff]at c ⊢;exact rwL rs.length c
   exact rwL this (rs.pick a)
  |some v=>
   exact xEA (rs.get c) λu hu d=>rwL hu (.cons d (rs.pick a))
def slc(v:V)(lo hi st:bn Int)(H:MH):bn (V×MH):=(lst H v).bind λvs=>if vs.length<1000000/\st≠ao 0 then mkL (zX vs lo hi st) H else none
def dK(f f1 f2 f3:EF):EF:=λlo H Q=>f lo H λv H0=>f1 lo H0 λa H1=>f2 lo H1 λb H2=>f3 lo H2 λc H3=>Lf (prt a) λpa=>Lf (prt b) λpb=>Lf (prt c) λpc=>Lp (slc v pa pb pc H3) Q
theorem wF{a b:bz}(l:Sim C H ρ s1)(q:Nx ρ noW s ρ s1)(r1:VR ρ s1.heap o v)(f:s1.heap.IsSliceOf sl a b c)(p1:IsPart a j)(p2:IsPart b k)(p3:IsPart c g)(e:slc v j k g H=ao (n,H')):∃ T id,s1.TypeIs o T/\fv (.type T) "__getitem__" =pure (ao (.builtin id))/\bI C.M A (sg o (.ref sl)) (EPo C ρ s H' n) NoE s1:=by
 refine xEA (bt.mp e) λvs p e=>?_
 by_cases d:vs.length<1000000/\g≠ao 0
 ·rw[cj d]at e
  refine jR e λt e=>?_
  cases e
  refine bV (b9 l r1 p) λad r h m i=>rwL h ?_
  refine⟨"list",_,m.typeIs,list_getitem_lookup,wpAny_getItem_list_slice m f p1 p2 p3 d.2 ((l.newList ?_).from q) (by rw[dx,i.sz];exact Nat.le_trans (Nat.le_of_lt d.1) (by decide))⟩
  unfold slicePick zX
  rw[i.sz]
  simpa using i.pick _
 ·rw[cc d]at e;cases e
theorem m4{st:bn Expr}(h:EV C r env e f)(y:PV C r env l f1)(L:PV C r env u f2)(N:PV C r env st f3)(j:Room r A)(S:Sim C H ρ s)(F:Fm C env ρ s lo)(q:dK f f1 f2 f3 lo H Q):bI C.M A (iw e env) (λo b=>bI C.M A (iw (.Slice l u st p) env) (λi a=>∃ T id,a.TypeIs o T/\fv (.type T) "__getitem__" =pure (ao (.builtin id))/\bI C.M A (sg o i) (bR C ρ s Q) NoE a) NoE b) NoE s:=h.run j S F q λS1 g K q=>wpAny_Slice (bR.run (y j S1 (F.nx g) q) λS2 d J q=>bR.run (L j S2 ((F.nx g).nx d) q) λS3 k B q=>bR.run (N j S3 (((F.nx g).nx d).nx k) q) λ{c R E O P} I m t q=>
  q.elim λpa G q=>q.elim λpb w q=>q.elim λpc z q=>q.elim λp D q=>by
   exact bV (wF (A:=A) (I.push _) (.push _) ((((K.nx d).nx k).nx m).mono (cy _) (fH _ _)) (Heap.IsSliceOf.new ..) (yB J G) (yB B w) (yB t z) D) λT id x n v=>⟨T,id,x,n,wmN v λU U p=>(p.from (g.trans (d.trans (k.trans m)))).post q⟩)
theorem pG{a:bv}(h:∃ T id,a.TypeIs o T/\fv (.type T) "__getitem__" =pure (ao (.builtin id))/\bI C.M A (sg o i) P NoE a):bI C.M A (operate ops (sg o i)) (λr b=>bI C.M A (mv e o r >>=λq=>pure r) P NoE b) NoE a:=let ⟨_,_,_,_,d⟩:=h
 wpAny_operating (fg d (λr b c=>zzB (tm (zzP c))) λq q x=>x)
theorem EV.slice(h:EV C r env e f)(m:PV C r env l f1)(n:PV C r env u f2):EV C r env (.Subscript e (.Slice l u Option.none p) pos) (dK f f1 f2 (eK .none)):=by
 intro A s ρ H lo Q t S F q
 rw[eval_Subscript]
 refine zzB (fg (m4 h m n PV.none t S F q) (λo g c=>zzB (cb (fg c (λi d a=>zzB (fh ?_)) λv v x=>x)))
  λv v x=>x)
 have b:=pG (e:=e) (ops:=[i,o]) a
 refine bV a λT id j k v=>zzB (rwL (th j.not_modules) (zzB (nr j k ?_)))
 first
  |exact zzP (zzB b)
  |exact zzB (zzP (zzB b))
  |exact zzB b
theorem EV.slice3{st:Expr}(h:EV C r env e f)(m:PV C r env l f1)(n:PV C r env u f2)(v:EV C r env st f3):EV C r env (.Subscript e (.Slice l u (ao st) p) pos) (dK f f1 f2 f3):=by
 intro A s ρ H lo Q t S F q
 rw[eval_Subscript]
 refine zzB (fg (m4 (st:=ao st) h m n v t S F q) (λo g c=>zzB (cb (fg c (λi d a=>zzB (fh ?_)) λw w x=>x)))
  λw w x=>x)
 have b:=pG (e:=e) (ops:=[o,i]) a
 refine bV a λT id j k w=>zzB (rwL (th j.not_modules) (zzB (nr j k ?_)))
 first
  |exact zzP (zzB b)
  |exact zzB (zzP (zzB b))
  |exact zzB b
open PySem PySem.W PyProof.Rows PySem.Calls PyProof
def PyData.kids:iq->bn (cw×aq iq) | .tuple xs=>ao (be,xs) | .list xs=>ao (aL,xs) |_=>none
def inB(H:MH)(a b:V):bn cw:=(rd H eqD a).bind λd=>((rd H eqD b).bind PyData.kids).bind λp=>if PyData.canLayAll0 p.2 && d.canLay0 && decide (d.depth<50) then ao (p.2.any λy=>PyData.eqv y d) else none
def oIn(f:cw->cw):OpF:=λa b H=>(inB H a b).map λt=>(.bool (f t),H)
theorem Room.deep(h:Room r A)(a:m<50):A.units+1+min n m<cLine:=by
 exact(zzM2 0xaa949d6cf41f68ac307da40000007ea0f6a068fa90001c1cbd07da00007 [m,A.units,r,n] ⋯ a h.2.2:_<9900)
theorem aJx(e:PyData.kids d=ao (t,xs)):d=bif t then .tuple xs else .list xs:=by
 cases d with
 |tuple a=>refine cxSP e ?_;rfl
 |list a=>refine cxSP e ?_;rfl
 |_=>first |exact aM e |cases e
set_option tactic.hygienic true in
theorem OpR.in2(l:∀ {A:eu}{s:bv}{a b:bz}{d:iq}{xs:aq iq}{i bs:aq dw}{Q:bz->bv->Prop},vi s.heap b (.tuple xs) bs->vi s.heap a d i->PyData.canLayAll0 xs=be->d.canLay0=be->(∀ n,A.units+1+min n d.depth<cLine)->Q (.bool (f (xs.any λy=>PyData.eqv y d))) s->bI C.M A (op a b) Q NoE s)(u:∀ {A:eu}{s:bv}{a b:bz}{d:iq}{xs:aq iq}{i bs:aq dw}{Q:bz->bv->Prop},vi s.heap b (.list xs) bs->vi s.heap a d i->PyData.canLayAll0 xs=be->d.canLay0=be->(∀ n,A.units+1+min n d.depth<cLine)->Q (.bool (f (xs.any λy=>PyData.eqv y d))) s->bI C.M A (op a b) Q NoE s):OpR C r op (oIn f):=by
 refine OpR.of ?_
 intro A s ρ H a b x z v H' k S ra w e
 refine xEA (dr.mp e) λt e o=>xEA (bt.mp e) λd q e=>xEA (bt.mp e) λz64 p e=>?_;obtain⟨m,xs⟩:=z64
 refine xEA (bt.mp p) λd2 g t=>?_
 split at e
 ·rename_i c
  refine xE (g8 S _ ra q) λas j=>xE (g8 S _ w g) λbs h=>?_
  rw[aJx t]at h
  refine cyS e λzq=>?_;subst zq
  refine cxP o ?_
  simp only[Bool.and_eq_true,decide_eq_true_eq]at c
  cases m with
  |true=>exact l h j c.1.1 c.1.2 (λn=>k.deep c.2) (.here S (.bool _))
  |false=>exact u h j c.1.1 c.1.2 (λn=>k.deep c.2) (.here S (.bool _))
 ·first |exact aM e |cases e
theorem OpR.in_:OpR C r (jd .In) (oIn id):=OpR.in2 (λr2 d a b c q=>PySem.SeqAt.in_tuple_reads r2 d a b (c _) q) λr2 d a b c q=>PySem.SeqAt.in_list_reads r2 d a b (c _) q
theorem OpR.notIn:OpR C r (jd .NotIn) (oIn not):=OpR.in2 (λr2 d a b c q=>PySem.SeqAt.notIn_tuple_reads r2 d a b (c _) q) λr2 d a b c q=>PySem.SeqAt.notIn_list_reads r2 d a b (c _) q
def V.no:V->cw | .none=>be |_=>aL
theorem VR.noT(r:VR ρ h u v)(e:v.no=be):u= .none:=by
 cases v with
 |none=>exact r.inv
 |_=>first |exact aM e |cases e
theorem VR.noF(r:VR ρ h u v)(e:v.no=aL):u≠ .none:=by
 rintro rfl
 cases v with
 |none=>cases e
 |bool=>exact Value.noConfusion r.inv
 |int=>exact xE r.inv λq h=>Value.noConfusion h
 |str=>exact xE r.inv λq h=>Value.noConfusion h
 |tup=>exact iZ r.inv λq q q h q=>Value.noConfusion h
 |mat=>exact lO r.inv λq q q q q q h q=>Value.noConfusion h
 |ref=>exact xEA r.inv λq h q=>Value.noConfusion h
 |dget=>exact jB r.inv λq q h q=>Value.noConfusion h
 |scon=>exact jB r.inv λq q h q=>Value.noConfusion h
 |rng=>exact pB r.inv λq q q q h q=>Value.noConfusion h
 |raw=>exact Value.noConfusion r.inv
def isV(a b:V)(H:MH):bn cw:=bif b.no then ao a.no else b.rf.bind λj=>bif a.no then ao aL else a.rf.bind λi=>if i=j then ao be else(lst H a).map λq=>aL
theorem aEb{j:Nat}{b:Lc}(S:Sim C H ρ s)(d:ρ[i]? =ao b)(f:ρ[j]? =ao c)(h:i≠j):b.a≠c.a:=λe=>S.disj i j b c d f h b.a (.inl rfl) (.inl e)
def IsR(M:ux)(A:eu)(a b:bz)(t:cw)(s:bv):Prop:=∀ Q:bz->bv->Prop,(Q (.bool t) s->bI M A (jd .Is a b) Q NoE s)/\(Q (.bool (!t)) s->bI M A (jd .IsNot a b) Q NoE s)
set_option tactic.hygienic true in
theorem is_ok{a b:bz}(S:Sim C H ρ s)(ra:VR ρ s.heap a k)(rb:VR ρ s.heap b p)(e:isV k p H=ao t):IsR C.M A a b t s:=by
 unfold isV at e
 cases l:p.no with
 |true=>
  rw[l]at e
  rw[rb.noT l]
  cases c:k.no with
  |true=>rw[c]at e;exact cxS e (rwL (ra.noT c) (λQ=>⟨λh=>wpAny_is_self rfl h,λh=>wpAny_isNot_self rfl h⟩))
  |false=>rw[c]at e;exact cxS e (λQ=>⟨λh=>is_none_ne (ra.noF c) h,λh=>isnot_none_ne (ra.noF c) h⟩)
 |false=>
  rw[l]at e
  refine xEA (bt.mp e) λj v e=>cU (rb.toRef v) λlj D n g=>rwL n ?_
  cases c:k.no with
  |true=>rw[c]at e;exact cxS e (rwL (ra.noT c) (λQ=>⟨λh=>wpAny_is_other rfl (by intro x;cases x) h,λh=>wpAny_isNot_other rfl (by intro x;cases x) h⟩))
  |false=>
   rw[c]at e
   refine xEA (bt.mp e) λi y e=>cU (ra.toRef y) λli D j q=>?_
   split at e
   ·rename_i d
    refine cxS e ?_
    subst d
    refine cyS (g▸q) λzq=>?_;subst zq
    exact rwL j (λQ=>⟨λh=>wpAny_is_ref_self h,λh=>wpAny_isNot_ref_self h⟩)
   ·rename_i d
    refine xEA (dr.mp e) λvs w e=>rwR e (bV (b9 S ra w) λad B u m D=>?_);obtain⟨o,r,z,_⟩:=m
    subst j
    cases u
    refine xA (S.live g) λz67 D=>xEA z67 λoj i D=>?_
    have f:o.cls≠ .type "tuple" :=by rw[z];intro x;injection x with x;revert x;decide
    exact λQ=>⟨λh=>wpAny_is_ref_other (aEb S q g d) r i f h,λh=>wpAny_isNot_ref_other (aEb S q g d) r i f h⟩
def oIs(f:cw->cw):OpF:=λa b H=>(isV a b H).map λt=>(.bool (f t),H)
theorem OpR.is_:OpR C r (jd .Is) (oIs id):=OpR.of λhr S ra a e=>by
 exact xEA (dr.mp e) λt b e=>cxP e ((is_ok S ra a b _).1 (.here S (.bool _)))
theorem OpR.isNot:OpR C r (jd .IsNot) (oIs not):=OpR.of λhr S ra a e=>by
 exact xEA (dr.mp e) λt b e=>cxP e ((is_ok S ra a b _).2 (.here S (.bool _)))
def Tb(v:V):bn cw:=match v with | .bool b=>ao b |_=>none
theorem VR.tb{b:cw}(r:VR ρ h u v)(e:Tb v=ao b):u= .bool b:=by
 cases r with
 |bool=>refine cxS e ?_;rfl
 |_=>first |exact aM e |cases e
def tCh(g1 g2:OpF)(f0 f1 f2:EF):TF:=λlo H Q=>f0 lo H λa H0=>f1 lo H0 λb H1=>Lp (g1 a b H1) λc H2=>Lf (Tb c) λt=>bif t then f2 lo H2 λc H3=>Lp (g2 b c H3) λd H4=>Lf (Tb d) λt=>Q t H4 else Q aL H2
theorem TV.chain{b a:CmpOp}(u:EV C r env e0 j)(p:EV C r env g f1)(x:EV C r env i f2)(o1:OpR C r (jd b) g1)(o2:OpR C r (jd a) k)(y:lastMarks [b,a] [g,i]=aL):TV C r env (.Compare e0 [b,a] [g,i] pos) (tCh g1 k j f1 f2):=λz z z z z z c S F q=>isTrue_chain (u.run c S F q λS1 f w q=>test_link (p.run c S1 (F.nx f) q λS2 e l q=>bR.run (o1 c S2 (w.nx e) l q) λS3 d s q=>q.elim λt h q=>by
  refine rwL (s.tb h) (oy ?_)
  cases t with
  |false=>exact⟨S3,f.trans (e.trans d),q⟩
  |true=>exact test_last (x.run c S3 (((F.nx f).nx e).nx d) q λS4 m n q=>bR.run (o2 c S4 ((l.nx d).nx m) n q) λS5 v o q=>q.elim λt h q=>by
    exact rwL (o.tb h) (oy ⟨S5,f.trans (e.trans (d.trans (m.trans v))),q⟩)))) y
def eAnd(f g:EF):EF:=λlo H Q=>f lo H λv H1=>Lf (tr v H1) λt=>bif t then g lo H1 Q else Q v H1
def eOr(f g:EF):EF:=λlo H Q=>f lo H λv H1=>Lf (tr v H1) λt=>bif t then Q v H1 else g lo H1 Q
theorem EV.and2{pos}(h:EV C r env d f)(i:EV C r env e g):EV C r env (.BoolOp .And [d,e] pos) (eAnd f g):=λl l l l l l c S F q=>BoolOp_and (h.run c S F q λS1 a b q=>q.elim λt j q=>mH S1 b j λk=>by
  cases t with
  |true=>rw[cj rfl];exact BoolOp_one (wmN (i c (S1.toks k) ((F.nx a).nx (.toks k)) q) λl l p=>p.from (a.trans (.toks k)))
  |false=>rw[cc (by decide)];exact⟨S1.toks k,a.trans (.toks k),b,q⟩)
theorem EV.or2{pos}(h:EV C r env d f)(i:EV C r env e g):EV C r env (.BoolOp .Or [d,e] pos) (eOr f g):=λl l l l l l c S F q=>BoolOp_or (h.run c S F q λS1 a b q=>q.elim λt j q=>mH S1 b j λk=>by
  cases t with
  |true=>rw[cj rfl];exact⟨S1.toks k,a.trans (.toks k),b,q⟩
  |false=>rw[cc (by decide)];exact BoolOp_one (wmN (i c (S1.toks k) ((F.nx a).nx (.toks k)) q) λl l p=>p.from (a.trans (.toks k))))
def eZ:aq (Str×dw):=[("__init__",160),("set_seqs",167),("set_seq1",174),("set_seq2",181),("_SequenceMatcher__chain_b",188),("find_longest_match",196),("get_matching_blocks",203),("get_opcodes",210),("get_grouped_opcodes",218)]
structure SMC(C:Cx):Prop where
 cls:∃ nm q bs sn sub col dd k0 k1 k2 k3 k5,C.base.heap.get? d4=ao (excClassObj nm q d4 241 bs [.type "object"] be sn sub aL col dd k0 k1 k2 k3 k5 "object.__new__")
 ns:∃ mN,C.base.heap.Ns 241 mN/\(∀ x∈c9,mN x=none)/\mN "__getattribute__" =none/\mN "__getattr__" =none/\mN "__setattr__" =none/\∀ p∈eZ,mN p.1=ao (.ref p.2)
 fn:∀ p∈eZ,∃ o,C.base.heap.get? p.2=ao o/\o.cls= .type "function"
theorem vU:∀ x∈c9,fv (.type "object") x=pure none:=by
 intro x a
 simp only[c9,du,cx,uz]at a
 rcases a with rfl |rfl |rfl |rfl |rfl |rfl |rfl |rfl |rfl |rfl<;>(rw[eg,dq];kernel_rfl)
theorem aEl:∀ p∈eZ,∃ y,fv (.type "object") p.1=pure y:=by
 intro p a
 simp only[eZ,du,cx,uz]at a
 rcases a with rfl |rfl |rfl |rfl |rfl |rfl |rfl |rfl |rfl
 ·exact⟨ao (.builtin "object.__init__"),by rw[eg,dq];kernel_rfl⟩
 all_goals exact⟨none,by rw[eg,dq];kernel_rfl⟩
theorem tU{i:Nat}(S:Sim C H ρ s)(c:ρ[i]? =ao l)(h:H[i]? =ao (.inst fs)):∃ m,s.heap.InstFk l.a d4 m/\Within m c9/\∀ x,OV ρ s.heap (m x) (fs x):=by
 refine pC (S.objs i _ l h c) λg j b m e g f r=>xEAAA b λo k n p t=>?_
 exact⟨m,⟨o,k,n,(λc=>by rw[p];intro q;cases q),.inr ⟨l.d,t,j,e,g⟩⟩,f,r⟩
theorem VR.handed(rv:VR ρ h u v):handedOut u=pure u:=by
 cases rv<;>rfl
def MO.ins:MO->bn (Str->bn V) | .inst fs=>ao fs |_=>none
theorem aFz(e:m.bind MO.ins=ao fs):m=ao (.inst fs):=by
 refine xEA (bt.mp e) λm a b=>rwL a ?_
 cases m with
 |inst f=>refine cxS b ?_;rfl
 |_=>cases b
def eQ(x:Str)(f:EF):EF:=λlo H Q=>f lo H λa H1=>Lf a.rf λi=>Lf (H1[i]?.bind MO.ins) λfs=>Lf (fs x) λv=>Q v H1
theorem dN(a:ju e x env (iw e env)=iw e env)(h:bI (h9 prog w) A (iw e env) (λo s1=>bI (h9 prog w) A (ub o x be) Q E s1) E s):bI (h9 prog w) A (iw (.Attribute e x pos) env) Q E s:=by
 show bI (h9 prog w) A (do
  let o<-ju e x env (iw e env)
  vo pos.atName
  let r<-tX [o] (ub o x be)
  mv e o r
  pure r) _ _ s
 exact rwL a (zzB (fg h (λo s1 b=>(zzB (fh (zzB (cb (fg b (λy s2 p=>(zzB (tm (zzP p)))) λq q z=>z)))))) λq q z=>z))
theorem EV.attr(K:SMC C)(c:x∈c9)(h:EV C r env e f)(T:ju e x env (iw e env)=iw e env)(ht:∀ o y,mv e o y=pure ()):EV C r env (.Attribute e x pos) (eQ x f):=λ_ _ _ _ _ _ hr S F q=>dN T (h.run hr S F q λS1 N1 P q=>q.elim λi O q=>q.elim λfs R q=>q.elim λv hv q=>by
  refine cU (P.toRef O) λl _ w g=>rwL w ?_
  exact (by
   intro A s ρ H i l D x v b K E B c S G J hv k
   refine cU (tU S G J) λm I W hm=>gR B.cls λnm q bs sn U Y dd k0 k1 k2 k3 k5 X=>sR B.ns λmN Q m p L N Z=>(hm x).elim hv λu z j=>?_
   obtain⟨hh,g,d,t,os⟩:=s
   exact load_attrFk (S.keep _ _ X) (lW Q S.keep) p (m x c) (vU x c) I z (VR.handed j) (k u _ j):∀{A:eu}{s:bv}{ρ:aq Lc}{H:MH}{i:Nat}{l:Lc}{D:Str->bn V}{x:Str}{v:V}{b:cw}{K E:bz->bv->Prop}(B:SMC C)(c:x∈c9)(S:Sim C H ρ s)(G:ρ[i]? =ao l)(J:H[i]? =ao (.inst D))(hv:D x=ao v)(k:∀ u n,VR ρ s.heap u v->K u {s with toks:=n}),bI C.M A (ub (.ref l.a) x b) K E s) K c S1 g (aFz R) hv (λu n j=>⟨S1.toks n,N1.trans (.toks n),j,q⟩))
def fput(fs:Str->bn V)(x:Str)(v:V):Str->bn V:=λy=>if y=x then ao v else fs y
theorem sX(K:SMC C)(hx:x∈c9)(S:Sim C H ρ s)(r:ρ[i]? =ao l)(J:H[i]? =ao (.inst fs))(rv:VR ρ s.heap u v):bI C.M A (setAttr (.ref l.a) x u) (λ_ s'=>Sim C (H.set i (.inst (fput fs x v))) ρ s'/\Nx ρ W s ρ s') NoE s:=by
 refine cU (tU S r J) λm I Wi hm=>gR K.cls λnm q bs sn dk dl dd k0 k1 k2 k3 k5 hC=>sR K.ns λmN hn O dg di Q dm=>xAAAEA (S.objs i _ l J r) λg ne X _ df _=>xEAAA X λo h1 h2 h3 h4=>?_;obtain⟨oD,dp,dj,P,U,_⟩:=df
 have f:C.base.heap.get? l.a=none:=by
  rcases S.ro i l r with ⟨vs,e⟩ |e
  ·cases (J▸e)
  ·exact e.1
 have Y:l.a≠d4:=by intro e;rw[e,hC]at f;exact cyM f
 obtain⟨R,gg,d,t,os⟩:=s
 refine store_attrFk PySem.F.store_object (S.keep _ _ hC) (lW hn S.keep) Q (O x hx) (vU x hx) Y I (λh' Z I' hk k=>?_) Wi (by rw[dx];decide)
 have N:∀ b ob,¬l.has b->R.get? b=ao ob->h'.get? b=ao ob:=λb ob L e=>hk b ob (λz=>L (.inl z)) (λo₀ d' E ed=>by
  obtain rfl:=Option.some.inj (h1.symm.trans E);obtain rfl:=Option.some.inj (h4.symm.trans ed);exact λz=>L (.inr z)) e
 have G:Imm R h':=λb ob e i=>N b ob (λz=>by
  rcases z with rfl |rfl
  ·refine cyS (h1▸e) λzq=>?_;subst zq;simp [aZ,h3]at i
  ·refine cyS (P▸e) λzq=>?_;subst zq;simp [aZ,U]at i) e
 refine aC7 (k o h1) λo₁ c B w _ n=>xEAAA I' λo' e' c' _ m=>?_
 obtain rfl:=Option.some.inj (c.symm.trans e')
 have p:=n l.d h4
 rcases m with ⟨de,_⟩ |⟨d',m,dh,j,D⟩
 ·exact cyM (rwR p de)
 obtain rfl:=Option.some.inj (p.symm.trans m)
 have al:∀ b ob,R.get? b=ao ob->∃ T,h'.get? b=ao T:=λb ob e=>by
  by_cases z:l.has b
  ·rcases z with rfl |rfl
   ·exact⟨_,c⟩
   ·exact iZ j λo2 _ _ e2 _=>⟨o2,e2⟩
  ·exact⟨ob,N b ob z e⟩
 refine⟨S.upd (s':=⟨h',gg,d,Z,os⟩) r J (by intro _ h;cases h) (λb ob e L=>N b ob L e) G rfl rfl ⟨g,ne,⟨o₁,c,B.trans h2,w.trans h3,p⟩,_,j,D,?_,λy=>?_⟩ (by intro _ h;cases h),
  ⟨cy _,λl r=>by simp at r,λb ob e ho _=>N b ob (λz=>ho ⟨l,fq r,z⟩) e,G,al⟩⟩
 ·intro y hy
  by_cases z:y=x
  ·exact rwL z hx
  ·exact Wi y (by simpa [z] using hy)
 ·delta fput
  by_cases z:y=x
  ·simp only[z,vp];exact rv.mono (cy _) G
  ·simp only[z,mq];exact(hm y).mono (cy _) G
def eW(x:Str)(f:EF):AF:=λv lo H Q=>f lo H λa H1=>Lf a.rf λi=>Lf (H1[i]?.bind MO.ins) λfs=>Q lo (H1.set i (.inst (fput fs x v)))
theorem AV.attr(K:SMC C)(hx:x∈c9)(h:EV C r env e f):AV C r env (.Attribute e x pos) (eW x f):=by
 intro A s ρ H lo u v Q i S F rv q
 rw[assign_Attribute]
 exact zzB (cb (h.run i S F q λS1 a d q=>q.elim λi c q=>q.elim λfs j q=>by
  refine cU (d.toRef c) λl k b g=>rwL b ?_
  exact zzB (fh (zzB (cb (wmN (sX (W:=noW) K hx S1 g (aFz j) (rv.nx a)) λk s2 p=>(wpAny_release ⟨p.1,(a.trans p.2).wr,F.nx (a.trans p.2),q⟩)))))))
def fR(g:CF)(f:EF)(fs:EFs):EF:=λlo H Q=>f lo H λa H1=>Lf a.rf λi=>(∃ ff,H1[i]? =ao (.inst ff))/\fs lo H1 λvs H2=>g (.ref i::vs) H2 Q
theorem EV.meth{name:Str}{a:Pos}(K:SMC C)(h:(name,fa)∈eZ)(O:CV C r (.ref fa) g)(H:EV C r env o f)(A:EVs C r env c fs)(hfl:mE env c)(k:fM env o name a pos c):EV C r env (.Call (.Attribute o name a) c [] pos) (fR g f fs):=λ_ _ _ _ _ _ w S F q=>fC (P:=λ_ _=>s7) k.base k.few k.line (H.run w S F q λ{x s1 M v1 H1} b v J q pl=>q.elim λi D q=>by
  refine cU (J.toRef D) λl _ B g'=>rwL B (xA q λz83 q=>?_);obtain⟨ff,L⟩:=z83
  refine cU (tU b g' L) λm I W hm=>gR K.cls λnm q' bs sn R U dd k0 k1 V X k5 T=>sR K.ns λmN N y i j G s=>xEA (K.fn _ h) λof n u=>xE (aEl _ h) λy Q=>?_
  have l:m name=Option.none:=by
   cases e:m name with
   |none=>rfl
   |some z=>exact ca (W name (by exact rwL e (λq=>(cyM q)))) ((by decide+kernel:∀ p∈eZ,p.1∉c9) _ h)
  obtain⟨Z,Y,d,t,os⟩:=s1
  exact method_ofFk (b.keep _ _ T) (lW N b.keep) i j (s _ h) (b.keep _ _ n) u Q I l (wmN (E:=NoE) (nR (pos:=pos) O A hfl w b (F.nx v) (.cons (VR.ref g') .nil) q) λ_ _ p=>p.from v))
theorem Sim.iterX(S:Sim C H ρ s)(c:∀ b o,¬X b->s.heap.get? b=ao o->h'.get? b=ao o)(h:∀ a o,X a->s.heap.get? a=ao o->¬aZ o)(f:∀ b,X b->¬Own ρ b/\C.base.heap.get? b=none):Sim C H ρ {s with heap:=h',toks:=k}/\NxI ρ X s ρ {s with heap:=h',toks:=k}:=by
 have d:=λb o e i=>Classical.byCases (λq:X b=>ca i (h b o q e)) λq=>c b o q e
 refine⟨S.same (λb o e q=>c b o (λz=>(Or.elim q (λq=>((f b z).1 q)) λq=>?_)) e) d (λj j e=>e) rfl S.bare,⟨cy _,λl g=>by simp at g,λb o e j q=>c b o q e,d,λb o e q=>⟨o,c b o q e⟩⟩⟩
 ·cases (((f b z).2)▸q)
inductive EnR(ρ:aq Lc)(h:jy)(it:Nat×Nat):bz->(dw->Prop)->Prop
 |mk {e t l old} (h1:ρ[it.1]? =ao l) (h2:e≠t) (h3:IsEnum h e t it.2 old) (h4:h.IsListIter t l.a it.2):EnR ρ h it (.ref e) (λb=>b=e\/b=t)
inductive EnM(ρ:aq Lc)(h:jy)(it:Nat×Nat):bz->bz->(dw->Prop)->Prop
 |mk {e t l item a} (h1:ρ[it.1]? =ao l) (h2:e≠t) (h3:IsEnumOut h e t it.2 item a) (h4:h.IsListIter t l.a it.2):EnM ρ h it (.ref a) (.ref e) (λb=>b=e\/b=t)
theorem aG5{h:jy}{o2:Obj}(c:h.get? e=ao o1)(d:h.get? t=ao o2)(i1: ¬aZ o1)(i2: ¬aZ o2):∀ b o,(b=e\/b=t)->h.get? b=ao o->¬aZ o:=λb o q a=>by
 rcases q with rfl |rfl
 ·rw[c]at a;exact cxS a i1
 ·rw[d]at a;exact cxS a i2
theorem lE(b:o.cls= .type "list_iterator")(a:o.data= .fields #[x,y]): ¬aZ o:=by delta aZ;rw[a];simp [b]
def nA(C:Cx):ItK C where
 σ:=Nat×Nat
 nx:=λit H Q=>Lf (lst H (.ref it.1)) λvs=>Q ((vs[it.2]?).map λv=>(.tup [.int it.2,v],(it.1,it.2+1))) H
 rel:=λρ s it x X=>EnR ρ s.heap it x X
 mid:=λρ s it u x X=>EnM ρ s.heap it u x X
 tg:=λt=>∃ elts k pos,t= .Tuple elts k pos
 need:=0
 mono:=λR p i hk=>by
  cases R with
  |mk h1 h2 h3 h4=>refine xEA h4 λo h4 h5=>?_;exact .mk (aT p h1) h2 (hk _ _ (.inl rfl) h3) ⟨o,hk _ _ (.inr rfl) h4,h5⟩
 alive:=λR b hb=>by
  cases R with
  |mk h1 h2 h3 h4=>
   refine xEA h4 λo h4 h5=>?_
   rcases hb with rfl |rfl
   ·exact⟨_,h3⟩
   ·exact⟨_,h4⟩
 next:=λ{A s ρ H it x X Q r} a hr S R hX q=>by
  refine q.elim λvs hl q=>?_
  cases R with
  |mk h1 h2 h3 hit=>
  refine bV (b9 S (.ref h1) hl) λad xs q1 q2 q3=>?_
  cases q1
  have hi:∀ b o,_->s.heap.get? b=ao o->¬aZ o:=let ⟨o,h4,h5,h6⟩:=hit;aG5 h3 h4 (by simp [aZ]) (lE h5 h6)
  cases hv:vs[it.2]? with
  |some v=>
   rw[hv]at q
   refine xEA (q3.get hv) λu hu ru=>?_
   refine wpAny_pyNext_enum_item h3 hit q2 (by simpa using hu) h2 λh' a1 a2 a3 a4 a5=>?_
   have st:=S.iterX (h':=h') (k:=s.toks+1) (λb o hb e'=>a5 b o (λz=>hb (.inl z)) (λz=>hb (.inr z)) e') hi hX
   exact .item (it':=(it.1,it.2+1)) st.1 st.2 (.tup a3 (.cons (.int _ _) (.cons (ru.mono (cy _) st.2.imm) .nil))) (.mk h1 h2 a1 a2) q
  |none=>
   rw[hv]at q
   refine wpAny_pyNext_enum_end hr.1 h3 hit q2 (Array.getElem?_eq_none (by rw[q3.sz];exact getElem?_eq_none_iff.mp hv)) λh' he=>?_
   have st:=S.iterX (h':=h') (k:=s.toks) (λb o hb e'=>he b o (λz=>hb (.inr z)) e') hi hX
   exact .done st.1 st.2 q
 lgo:=λ{A s ρ H it x X u target r} hr S M tg hX=>by
  refine xF tg λelts k pos z68=>?_;clear tg;subst z68
  cases M with
  |mk h1 h2 h3 hit=>
  have hi:∀ b o,_->s.heap.get? b=ao o->¬aZ o:=let ⟨o,h4,h5,h6⟩:=hit;aG5 h3 h4 (by simp [aZ]) (lE h5 h6)
  refine wpAny_letOwnedTupleGo_enum h3 λh' a1 hs=>?_
  have st:=S.iterX (h':=h') (k:=s.toks) (λb o hb e'=>(hs.2 b (λz=>hb (.inl z))).trans e') hi hX
  refine xEA hit λo h4 h5=>?_
  exact⟨st.1,st.2,.mk h1 h2 a1 ⟨o,(hs.2 _ (Ne.symm h2)).trans h4,h5⟩⟩
theorem IV.enum(h:EV C r env e f)(y:Glo C "enumerate" (.type "enumerate"))(I:env.kindOf "enumerate" =ao .globalImplicit)(b:mE env [e])(x:ee [e] env=(aL,iw e env)::ee [] env):IV (nA C) r env (.Call (.Name "enumerate" u) [e] [] pos) (iL f):=λA s ρ H lo Q J S F q=>jl (jW y I (by decide) S F (lJ (by rw[b.2];rfl) dD
  (wmN (kQ (Q:=λvs H1=>Lf (one vs) λv=>Lf v.rf λi=>(∃ vs,lst H1 (.ref i)=ao vs)/\Q (i,0) H1) (EVs.cons h EVs.nil x) b J S F q) λa s1 p=>by
  obtain⟨ps,N⟩:=a
  obtain⟨l,c,N1,rs,q⟩:=p
  subst l
  refine⟨c.keep,q.elim λv z q=>q.elim λi B q=>(xEA (jO rs z) λu hu n=>?_)⟩
  subst hu
  refine cU (n.toRef B) λl d j g=>?_;subst d;subst j
  refine xA q λz71 q=>?_;obtain⟨vs,D⟩:=z71
  refine bV (b9 c n D) λad L e G K=>?_
  cases e
  refine call_enumerate_list G λh' m E M t=>wpAny_pyIter_enum m ?_
  have k:s1.heap.get? (s1.heap.objs.size+1)=none:=by
   cases A:s1.heap.get? (s1.heap.objs.size+1) with
   |none=>rfl
   |some o=>exact ca (Heap.lt_size A) (Nat.not_lt.mpr (uP _))
  exact⟨c.ext t,N1.trans (.ext t),.mk g (qu _) m E,λb w=>by
   rcases w with rfl |rfl
   ·exact cM N1 c k
   ·exact cM N1 c (bG _),q⟩)))
def MO.dct:MO->bn (Nat×(Int->bn V)) | .dict n f=>ao (n,f) |_=>none
theorem yW(e:m.bind MO.dct=ao p):m=ao (.dict p.1 p.2):=by
 refine xEA (bt.mp e) λm a b=>rwL a ?_
 cases m with
 |dict n f=>refine cxSP b ?_;rfl
 |_=>cases b
theorem tC{i:Nat}(S:Sim C H ρ s)(b:ρ[i]? =ao l)(d:H[i]? =ao (.dict n f))(g:∃ o,C.base.heap.get? mw=ao o):(l.a==mw)=aL:=by
 rcases S.ro i l b with ⟨vs,e⟩ |e
 ·cases (d▸e)
 ·rw[m2]
  refine λq=>(xE g λo c=>?_)
  rw[q,c]at e
  cases e.1
structure DctAt(C:Cx)(H:MH)(ρ:aq Lc)(s:bv)(i:Nat)(l:Lc)(n:Nat)(f:Int->bn V)(kvs:aq (Int×bz)):Prop where
 g:ρ[i]? =ao l
 d:l.d=l.a
 gn:l.g=none
 h:H[i]? =ao (.dict n f)
 x:s.heap.DictOf (rB C.prog C.w) l.a kvs
 le:kvs.length<=n
 f:∀ k,OV ρ s.heap (ou kvs k) (f k)
theorem uO(S:Sim C H ρ s)(g:ρ[i]? =ao l)(h:H[i]? =ao (.dict n f)):∃ a,DctAt C H ρ s i l n f a:=let ⟨d,e,a,c,b,j⟩:=S.objs i _ l h g;⟨a,g,d,e,h,c,b,j⟩
theorem r9{id:qr}{b:Pos}{K:bz->bv->Prop}(E:EV C r env o f)(m:fM env o name b pos args)(d:Slot "dict" name id)(w:si (.builtin id)=pure (.type "method_descriptor"))(L:Room r A)(S:Sim C H ρ s)(F:Fm C env ρ s lo)(e:f lo H Q)(I:∀ v H1,Q v H1->∃ i n g,v.rf=ao i/\H1[i]? =ao (.dict n g))(h:∀ {s1 c l i n g H1},Sim C H1 c s1->Nx ρ noW s c s1->c[i]? =ao l->H1[i]? =ao (.dict n g)->Q (.ref i) H1->bI C.M A (vw pos (.builtin id) [.ref l.a] (kr pos (ee args env)) []) K NoE s1):bI C.M A (iw (.Call (.Attribute o name b) args [] pos) env) K NoE s:=fC (P:=λU U=>s7) m.base m.few m.line (E.run L S F e λS1 J G q R=>by
  refine iZ (I _ _ q) λi n O B y=>cU (G.toRef B) λl u p g=>?_;subst p
  subst u
  refine xE (uO S1 g y) λkvs D=>dQ D.x λob N T j k U=>xAA k λhc1 t z=>?_
  exact getMethod_builtin ⟨_,j,hc1⟩ PySem.F.plainAttrs_dict d w (λa e=>by cases e;exact⟨_,j,t⟩) (h S1 J g y q))
def eD2(f f1 f2:EF)(k:Nat->Nat->(Int->bn V)->Int->V->MH->EK->Prop):EF:=λlo H Q=>f lo H λa H1=>Lf a.rf λi=>(∃ n g,H1[i]? =ao (.dict n g))/\f1 lo H1 λb H2=>Lf (Ti b) λx=>f2 lo H2 λv H3=>Lf (H3[i]?.bind MO.dct) λp=>k i p.1 p.2 x v H3 Q
def aBi(f f1 f2:EF):EF:=eD2 f f1 f2 λi n g x v H3 Q=>n<1000000/\match g x with |some v'=>Q v' H3 |none=>Q v (H3.set i (.dict (n+1) (dput g x v)))
theorem OV.same(o:OV ρ h u w):(u=none/\w=none)\/∃ x v,u=ao x/\w=ao v/\VR ρ h x v:=by
 cases u<;>cases w
 ·exact .inl ⟨rfl,rfl⟩
 ·exact False.elim o
 ·exact False.elim o
 ·exact .inr ⟨_,_,rfl,rfl,o⟩
theorem EV.setdefault(P:∃ o,C.base.heap.get? mw=ao o)(I:EV C r env o f)(Q:EV C r env j f1)(W:EV C r env m f2)(E:fM env o "setdefault" c pos [j,m])(R:kr pos (ee [j,m] env)= [(aL,iw j env),(aL,iw m env)]):EV C r env (.Call (.Attribute o "setdefault" c) [j,m] [] pos) (aBi f f1 f2):=λ_ _ _ _ _ _ v S F q=>r9 I E PySem.F.slot_dict_setdefault PySem.F.type_dict_setdefault v S F q (λv H1 q=>q.elim λi H q=>xEE q.1 λn g h=>⟨i,n,g,H,h⟩) λ{s1 M l i n g H1} J u G hw q=>by
  refine rwL R (method2_meetsIn PySem.F.slot_dict_setdefault PySem.F.entry_dict_setdefault (Q.run v J (F.nx u) q.2 λ{x s2 K v2 Z} S2 t T q=>q.elim λk V q=>W.run v S2 ((F.nx u).nx t) q λ{b s3 B Y H3} S3 z A q=>q.elim λp U q=>(xE (uO S3 (aT (t.trans z).pre G) (yW U)) λkvs D=>?_)))
  have N:=u.trans (t.trans z)
  refine xE (T.tiE V) λt p=>?_;subst p
  refine xA q λhn q=>⟨D.x.mapOf.typeIs,PySem.F.args_dict_setdefault_3 _ _ _,_,kt_meets_setdefault (rB C.prog C.w) l.a (q4 _ _ _ _) (tC S3 D.g D.h P) b,kvs,D.x,by exact rwL dx (zzM2 0x550820820f69028a401dec3283d07da00007 [p.fst,kvs.length] ⋯ hn D.le),λu hu=>?_,λhu h' y O=>?_⟩
  ·rcases(D.f k).same with ⟨e,_⟩ |⟨L,X,e,s,rv⟩
   ·exact cyM (rwR hu e)
   ·refine cyS (hu▸e) λzq=>?_;subst zq;rw[s]at q;exact bR.from N (.tok S3 rv q)
  ·rcases(D.f k).same with ⟨_,s⟩ |⟨L,X,e,_⟩
   ·rw[s]at q
    have st:=S3.setD (tk:=s3.toks+1) D.g D.h D.d D.gn D.x D.le D.f A y O
    exact bR.from N ⟨st.1,st.2 _,A.nx (st.2 noW),q⟩
   ·cases (hu▸e)
def eGet(f f1 f2:EF):EF:=eD2 f f1 f2 λi n g x v H3 Q=>Q ((g x).getD v) H3
theorem EV.get{a:Pos}(A:∃ o,C.base.heap.get? mw=ao o)(M:EV C r env o f)(B:EV C r env c f1)(T:EV C r env d f2)(J:fM env o "get" a pos [c,d])(G:kr pos (ee [c,d] env)= [(aL,iw c env),(aL,iw d env)]):EV C r env (.Call (.Attribute o "get" a) [c,d] [] pos) (eGet f f1 f2):=λ_ _ _ _ _ _ t S F q=>r9 M J PySem.F.slot_dict_get PySem.F.type_dict_get t S F q (λv H1 q=>q.elim λi K q=>xEE q.1 λn g h=>⟨i,n,g,K,h⟩) λ{s1 R l i n g H1} z u y I q=>by
  refine rwL G (wpAny_dict_get2 (knd:=rB C.prog C.w) (tC z y I A) (B.run t z (F.nx u) q.2 λ{x s2 Q Y V} S2 s L q=>q.elim λk P q=>T.run t S2 ((F.nx u).nx s) q λ{b s3 E U W} m v H q=>q.elim λp O q=>(xE (uO m (aT (s.trans v).pre y) (yW O)) λkvs D=>?_)))
  have N:=u.trans (s.trans v)
  refine xE (L.tiE P) λt j=>rwL j ?_
  dsimp only at q
  refine⟨k,_,q4 _ _ _ _,D.x.mapOf,?_⟩
  rcases(D.f k).same with ⟨e,p⟩ |⟨X,Z,e,p,rv⟩
  ·rw[e];rw[p]at q;exact bR.from N (.tok m H q)
  ·rw[e];rw[p]at q;exact bR.from N (.tok m rv q)
theorem aAi:Slot "method_descriptor" "__get__" "method_descriptor.__get__" :=.of (owner:="method_descriptor") (n:="__get__") (by rw[eg,dq];kernel_rfl) (by decide+kernel) (by decide+kernel) (by decide+kernel)
  (by first |exact .inl (by decide+kernel) |exact .inr (by decide+kernel)) (by rw[ir];kernel_rfl)
theorem aDs:og (.type "dict") (.type "dict")=pure be:=by rw[ir];kernel_rfl
theorem aIj:og (.type "set") (.type "set")=pure be:=by rw[ir];kernel_rfl
theorem aI2:(kfb_private% "ownerAndName") "dict.get" =("dict","get"):=by first |decide+kernel |kernel_rfl
theorem aI3:(kfb_private% "ownerAndName") "set.__contains__" =("set","__contains__"):=by first |decide+kernel |kernel_rfl
theorem aE2:fv (.type "method_descriptor") "__get__" =pure (ao (.builtin "method_descriptor.__get__")):=by rw[eg,dq];kernel_rfl
theorem aE1:fv (.type "method_descriptor") "__set__" =pure none:=by rw[eg,dq];kernel_rfl
theorem aE4:fv (.type "method_descriptor") "__delete__" =pure none:=by rw[eg,dq];kernel_rfl
theorem aAj{a:dw}{id:qr}(d:Manifest.toldItsClass.contains id=aL)(c:(kfb_private% "ownerAndName") id=(T,nm))(b:og (.type T) (.type T)=pure be)(f:si (.builtin id)=pure (.type "method_descriptor"))(e:s.TypeIs (.ref a) T)(h:R (.ok (.ret (.ref s.heap.objs.size))) {s with heap:=s.heap.push {cls:=.type "builtin_function_or_method",data:=.fields #[.builtin id,.ref a]}}):
  kN (h9 prog w) A (.call (.builtin "method_descriptor.__get__") ⟨[.builtin id,.ref a,.type T],[]⟩) R s:=by
 exact jk aAi.plain (lH ⋯) (aAi.check _ _ _ _ _ _ _ _ f (by delta rE;kernel_rfl) ((by
  intro M A E s a T id nm P d c b e h
  refine zzB (ji (a:=(.builtin id,ao (.ref a),ao (.type T))) (by first |rfl |kernel_rfl) ?_)
  simp only[d,iu,mq]
  refine zzB (zzB (ji (by show(match (kfb_private% "ownerAndName") id with | (owner,name)=>pure ((name:Str),Value.type owner))=_;rw[c]) ?_))
  exact zzB (jz e b (zzP (zzB (g5 (zzP h))))):∀{M:ux}{A:eu}{E:bz->bv->Prop}{s:bv}{a:dw}{T id nm:qr}{P:Fin->bv->Prop}(d:Manifest.toldItsClass.contains id=aL)(c:(kfb_private% "ownerAndName") id=(T,nm))(b:og (.type T) (.type T)=pure be)(e:s.TypeIs (.ref a) T)(h:P (.done (.ret (.ref s.heap.objs.size))) {s with heap:=s.heap.push {cls:=.type "builtin_function_or_method",data:=.fields #[.builtin id,.ref a]}}),bI M A (Builtin.«method_descriptor.__get__» ⟨[.builtin id,.ref a,.type T],[]⟩) P E s) d c b e h))
theorem kZ:ri rk "dict.__getattribute__" =ao Builtin.«object.__getattribute__»:=tq (id':="object.__getattribute__") ⋯ (by decide+kernel) (by decide+kernel) ⋯
theorem lk_get:fv (.type "dict") "get" =pure (ao (.builtin "dict.get")):=by rw[eg,dq];kernel_rfl
set_option maxHeartbeats 1000000 in
theorem kU(a:dw)(h:iz vg)(k:Nat)(u:Tok):Meets (Builtin.«object.__getattribute__» ⟨[.ref a,.str "get" u],[]⟩) (λA R s=>s.heap.get? a=ao {cls:=.type "dict",dict:=none,data:=.dict h k,slots:= #[]}/\R (.ok (.ret (.ref s.heap.objs.size))) {s with heap:=s.heap.push {cls:=.type "builtin_function_or_method",data:=.fields #[.builtin "dict.get",.ref a]}}):=Meets.of_wp λprog w A R s b=>by
  obtain⟨c,g,d,tk,os⟩:=s
  obtain⟨e,b⟩:=b
  have f:(⟨c,g,d,tk,os⟩:bv).TypeIs (.ref a) "dict" :=⟨_,e,rfl⟩
  have f1:=lk_get
  have f2:=PySem.F.type_dict_get
  have f3:=aE2
  have j:=aE1
  have i:=aE4
  repeat (any_goals (first |assumption |wp_step))
  exact aAj (by decide+kernel) aI2 aDs f2 f (zzP ⟨_,rfl,b⟩)
set_option maxHeartbeats 1000000 in
theorem mP{a:dw}{b:cw}(i:s.heap.get? a=ao {cls:=.type "dict",dict:=none,data:=.dict f k,slots:= #[]})(h:Q (.ref s.heap.objs.size) {s with heap:=s.heap.push {cls:=.type "builtin_function_or_method",data:=.fields #[.builtin "dict.get",.ref a]},toks:=s.toks+1}):
  bI (h9 prog w) A (ub (.ref a) "get" b) Q E s:=by
 obtain⟨j,g,d,tk,os⟩:=s
 have c:∀ e,(⟨j,g,d,e,os⟩:bv).TypeIs (.ref a) "dict" :=λq=>⟨_,i,rfl⟩
 have f3:=F.slot_dict_getattribute.lookup
 have m:=F.slot_dict_getattribute.bind (.ref a)
 repeat (any_goals (first |assumption |exact c _ | ((with_reducible show bI _ _ (call (Value.builtin "dict.__getattribute__") _ _) _ _ _);refine uq F.slot_dict_getattribute (c _) kZ (F.args_dict_getattribute_2 _ _) (kU a f k _) ⟨i,?_⟩) |wp_step))
 have l:(b && onTheHeap (Value.builtin "dict.__getattribute__"))=aL:=by cases b<;>rfl
 delta boundAndCalled
 repeat (any_goals (first |assumption |exact c _ | ((with_reducible refine(?_:bI _ _ (call (Value.builtin "dict.__getattribute__") _ _) _ _ _));refine uq F.slot_dict_getattribute (c _) kZ (F.args_dict_getattribute_2 _ _) (kU a f k _) ⟨i,?_⟩) |wp_step))
 exact zzP h
theorem l7:ri rk "set.__getattribute__" =ao Builtin.«object.__getattribute__»:=tq (id':="object.__getattribute__") ⋯ (by decide+kernel) (by decide+kernel) ⋯
theorem lk_con:fv (.type "set") "__contains__" =pure (ao (.builtin "set.__contains__")):=by rw[eg,dq];kernel_rfl
set_option maxHeartbeats 1000000 in
theorem lZ(a:dw)(k:Nat)(st:SetTable)(u:Tok):Meets (Builtin.«object.__getattribute__» ⟨[.ref a,.str "__contains__" u],[]⟩) (λA R s=>s.heap.get? a=ao {cls:=.type "set",dict:=none,data:=.set #[] k st,slots:= #[]}/\R (.ok (.ret (.ref s.heap.objs.size))) {s with heap:=s.heap.push {cls:=.type "builtin_function_or_method",data:=.fields #[.builtin "set.__contains__",.ref a]}}):=Meets.of_wp λprog w A R s b=>by
  obtain⟨c,g,d,tk,os⟩:=s
  obtain⟨e,b⟩:=b
  have f:(⟨c,g,d,tk,os⟩:bv).TypeIs (.ref a) "set" :=⟨_,e,rfl⟩
  have f1:=lk_con
  have f2:=PySem.F.type_set_contains
  have f3:=aE2
  have i:=aE1
  have h:=aE4
  repeat (any_goals (first |assumption |wp_step))
  exact aAj (by decide+kernel) aI3 aIj f2 f (zzP ⟨_,rfl,b⟩)
set_option maxHeartbeats 1000000 in
theorem n6{a:dw}{st:SetTable}{b:cw}(f:s.heap.get? a=ao {cls:=.type "set",dict:=none,data:=.set #[] k st,slots:= #[]})(h:Q (.ref s.heap.objs.size) {s with heap:=s.heap.push {cls:=.type "builtin_function_or_method",data:=.fields #[.builtin "set.__contains__",.ref a]},toks:=s.toks+1}):
  bI (h9 prog w) A (ub (.ref a) "__contains__" b) Q E s:=by
 obtain⟨i,g,d,tk,os⟩:=s
 have c:∀ e,(⟨i,g,d,e,os⟩:bv).TypeIs (.ref a) "set" :=λq=>⟨_,f,rfl⟩
 have f3:=F.slot_set_getattribute.lookup
 have l:=F.slot_set_getattribute.bind (.ref a)
 repeat (any_goals (first |assumption |exact c _ | ((with_reducible show bI _ _ (call (Value.builtin "set.__getattribute__") _ _) _ _ _);refine uq F.slot_set_getattribute (c _) l7 (F.args_set_getattribute_2 _ _) (lZ a k st _) ⟨f,?_⟩) |wp_step))
 have j:(b && onTheHeap (Value.builtin "set.__getattribute__"))=aL:=by cases b<;>rfl
 delta boundAndCalled
 repeat (any_goals (first |assumption |exact c _ | ((with_reducible refine(?_:bI _ _ (call (Value.builtin "set.__getattribute__") _ _) _ _ _));refine uq F.slot_set_getattribute (c _) l7 (F.args_set_getattribute_2 _ _) (lZ a k st _) ⟨f,?_⟩) |wp_step))
 exact zzP h
noncomputable abbrev bObj(id:qr)(self:bz):Obj:= {cls:=.type "builtin_function_or_method",data:=.fields #[.builtin id,self]}
def okB(id full:qr)(args:Args):Prop:=(match Manifest.signature? id with |some sig=>Bind.checkArgs id {sig with full:=full} args |none=>(pure ():Sem tj))=pure ()
theorem nQ{b:aq bz}{id:qr}(m:oh id=ao .method)(p:Bind.lastOf id=nm)(r:Manifest.varargsMethods.contains id=aL)(t:og (.type T) (.type "module")=pure aL)(i:s.heap.get? d=ao o)(k:o.cls= .type T)(j:∀ c,o.data≠ .cls c)(g:s!"{Bind.lastOf T}.{nm}" =f)(a:okB id f ⟨.ref d::b,[]⟩)(h:Q () s):bI M A (rx id ⟨.ref d::b,[]⟩) Q E s:=by
 delta rx
 rw[<-g]at a
 unfold okB at a
 cases n:Manifest.signature? id with
 |none=>exact zzP h
 |some l=>
  rw[n]at a
  rw[m]
  dsimp only
  refine rwL (cc (by decide)) (rwL p (zzB (jz ⟨o,i,k⟩ t (rwL r (rwL (cc (by decide)) (zzB ?_))))))
  show bI M A (loadHead d >>=λob=>pure (match ob.data with | .cls _=>be |_=>aL)) _ _ s
  refine zzB (tu i ?_)
  have e:(match o.data with | .cls _=>be |_=>aL)=aL:=by
   cases q:o.data<;>first |rfl |exact ca q (j _)
  exact rwL e (zzP (rwL (cc (by decide)) (zzB (uQ ⟨o,i,k⟩ (ji a h)))))
theorem qV{a:bz}{id:qr}(d:s.heap.get? x=ao (bObj id a))(j:∀ {e:eu}{i:bz->bv->Prop}{b:tj->bv->Prop},b () s->bI (h9 prog w) e (rx id ⟨a::args,[]⟩) b i s)(c:vq id=be)(f:ri rk id=ao B)(g:MeetsIn prog w (B ⟨a::args,[]⟩) S)(h:S A (wants Q E) s):bI (h9 prog w) A (call (.ref x) args) Q E s:=by
 refine jh (mh ?_)
 show bI _ A.in1 (callAny (.ref x) ⟨args,[]⟩) _ _ s
 delta callAny;dsimp only
 refine zzB (wpAny_load d ?_)
 simp only[show (Value.type "builtin_function_or_method" ==Value.type "method" || Value.type "builtin_function_or_method" ==Value.type "builtin_function_or_method" || Value.type "builtin_function_or_method" ==Value.type "method-wrapper")=be by decide,vp]
 refine KFB.if_so (by decide) (zzB (j (zzB (zzP (zzP ⟨qe c _,nu f ?_⟩)))))
 rw[Around.under_plainId c]
 exact g A _ s h
theorem aCj{a:dw}:MeetsIn prog w (Builtin.«frozenset.__contains__» ⟨[.ref a,.int k u],[]⟩) (λq R s=>(∃ n t,s.heap.get? a=ao {cls:=.type "set",data:=.set #[] n t}/\t.fits 0=be)/\R (.ok (.ret (.bool aL))) {s with toks:=s.toks+1}):=.of_wp λA R s ⟨⟨n,t,b,c⟩,h⟩=>by
  refine zzB (zzP ?_)
  try refine zzB (zzP ?_)
  try exact zzB (wpAny_tryCatch (cb (zzB ((rB prog w).pyHash (q4 _ _ _ _) (zzB (wpAny_setFind_of (q4 _ _ _ _) rfl ((by exact λ{h a n t} b c prog w=>⟨_,#[],n,t,b,⟨rfl,rfl,rfl⟩,rfl,λe d=>by simp at d,λk=>by simp,by decide,c,rfl⟩:∀{h:jy}{a:dw}{n:Nat}{t:SetTable}(b:h.get? a=ao {cls:=.type "set",data:=.set #[] n t})(c:t.fits 0=be)(prog:nk)(w:jp),h.SetOf (rB prog w) a (λq=>aL) 0) b c prog w) λr e=>(zzP (rwL e (zzP ⟨_,rfl,h⟩)))))))))
def eBd(mk:Nat->V)(ok:MO->cw)(f:EF):EF:=λlo H Q=>f lo H λa H1=>Lf a.rf λi=>Lf H1[i]? λm=>ok m=be/\Q (mk i) H1
def okD:MO->cw | .dict _ _=>be |_=>aL
def okS:MO->cw | .eset=>be |_=>aL
theorem EV.dget(h:EV C r env e f)(k:ju e "get" env (iw e env)=iw e env)(D:∀ o y,mv e o y=pure ()):EV C r env (.Attribute e "get" pos) (eBd .dget okD f):=λJ J J J J J z S F q=>dN k (h.run z S F q λS1 x v q=>q.elim λi t q=>q.elim λm w q=>by
  obtain⟨l,_,rfl,j⟩:=v.toRef t
  obtain⟨a,q⟩:=q
  cases m with
  |dict n g=>
   obtain⟨B,G,s,⟨⟨oc,H,A,p⟩,E,I,u,⟨d,c2,c⟩,b,_⟩,_⟩:=S1.objs i _ l w j
   simp only at d c2 c b
   subst d c2 c b
   exact mP u ⟨(S1.push _).toks _,x.trans ((Nx.push _).trans (.toks _)),.dget j (Heap.get?_push_size _ rfl),q⟩
  |_=>cases a)
theorem aKf(h:okS m=be):m= .eset:=by cases m<;>first |rfl |cases h
theorem EV.scon2(h:EV C r env e f)(k:ju e "__contains__" env (iw e env)=iw e env):EV C r env (.Attribute e "__contains__" pos) (eBd .scon okS f):=λv v v v v v o S F q=>dN k (h.run o S F q λS1 m g q=>q.elim λi c q=>q.elim λm j q=>by
  obtain⟨l,_,rfl,b⟩:=g.toRef c
  obtain⟨a,q⟩:=q
  obtain rfl:=aKf a
  obtain⟨p,s,n,t,d,u⟩:=S1.objs i _ l j b
  exact n6 d ⟨(S1.push _).toks _,m.trans ((Nx.push _).trans (.toks _)),.scon b (Heap.get?_push_size _ rfl),q⟩)
theorem aCy(j:s.heap.get? x=ao (bObj "set.__contains__" (.ref d)))(g:s.heap.get? d=ao {cls:=.type "set",data:=.set #[] n t})(m:t.fits 0=be)(h:Q (.bool aL) {s with toks:=s.toks+1}):bI (h9 prog w) A (call (.ref x) [.int k u]) Q E s:=by
 have l:∀ {e:eu}{f:bz->bv->Prop}{c:tj->bv->Prop},c () s->bI (h9 prog w) e (rx "set.__contains__" ⟨.ref d::[.int k u],[]⟩) c f s:=by
  intro e f c i
  refine nQ (nm:="__contains__") (id:="set.__contains__") (by decide+kernel:oh "set.__contains__" =ao .method) ?_ ?_ ?_ g rfl (λc z=>by injection z) ?_ ((by
   intro a b
   delta okB;rw[signature?_of (n:=['_','_','s','n','i','a','t','n','o','c','_','_']) ⋯ PySem.F.owner_set];kernel_rfl:∀(a b:bz),okB "set.__contains__" "set.__contains__" ⟨[a,b],[]⟩) (.ref d) (.int k u)) i
  ·decide+kernel
  ·decide+kernel
  ·rw[ir];kernel_rfl
  ·decide+kernel
 exact qV j l PySem.F.slot_set_contains.plain entry_set_contains aCj ⟨⟨n,t,g,m⟩,h⟩
def V.bd:V->bn (cw×Nat) | .dget i=>ao (be,i) | .scon i=>ao (aL,i) |_=>Option.none
def twoV(vs:aq V):bn (Int×V):=match vs with | [a,b]=>(Ti a).map λk=>(k,b) |_=>none
def eCv(f:EF)(fs:EFs):EF:=λlo H Q=>f lo H λa H1=>Lf a.bd λp=>fs lo H1 λvs H2=>
 bif p.1 then Lf (twoV vs) λkv=>Lf (H2[p.2]?.bind MO.dct) λd=>Q ((d.2 kv.1).getD kv.2) H2
 else Lf ((one vs).bind Ti) λk=>H2[p.2]? =ao .eset/\Q (.bool aL) H2
theorem VR.toBd(r:VR ρ h u v)(e:v.bd=ao (t,i)):∃ a l,u= .ref a/\ρ[i]? =ao l/\h.get? a=ao (bObj (bif t then "dict.get" else "set.__contains__") (.ref l.a)):=by
 cases v with
 |dget n=>exact cxSP e r.inv
 |scon n=>exact cxSP e r.inv
 |_=>first |exact aM e |cases e
theorem aCz{b:aq (Int×bz)}{K:bz->bv->Prop}(p:∃ o,C.base.heap.get? mw=ao o)(S2:Sim C j d s2)(D:DctAt C j d s2 i l n g b)(f:s2.heap.get? m=ao (bObj "dict.get" (.ref l.a)))(h:K ((ou b k).getD c) {s2 with toks:=s2.toks+1}):bI C.M A (call (.ref m) [.int k t,c]) K NoE s2:=by
 refine cN D.x λoo u y q e r B=>xAA e λc1 c2 v=>?_
 exact qV f (λhq=>nQ (by decide+kernel:oh "dict.get" =ao .method) (by decide+kernel:Bind.lastOf "dict.get" ="get") (by decide+kernel:Manifest.varargsMethods.contains "dict.get" =aL) (by rw[ir];kernel_rfl:og (.type "dict") (.type "module")=pure aL) q c1 (λc=>by rw[r];intro z;cases z) (by decide+kernel:s!"{Bind.lastOf "dict"}.{"get"}" ="dict.get") ((by
  delta okB;rw[signature?_of (n:=['t','e','g']) ⋯ PySem.F.owner_dict];kernel_rfl)) hq) PySem.F.slot_dict_get.plain PySem.F.entry_dict_get
  (meets_dict_get_default (rB C.prog C.w) l.a (q4 _ _ _ _) (tC S2 D.g D.h p) _) ⟨_,D.x.mapOf,h⟩
theorem EV.callV{K:Pos}(Y:∃ o,C.base.heap.get? mw=ao o)(h:EV C r env (.Name x K) f)(O:EVs C r env v fs)(d:mE env v):EV C r env (.Call (.Name x K) v [] pos) (eCv f fs):=λA s ρ H lo Q M S F q=>jl (h.run M S F q λS1 L U q=>q.elim λp hp q=>by
  obtain⟨t,i⟩:=p
  refine bV (U.toBd hp) λad l E R Z=>rwL E ?_
  refine lJ (P:=λh=>h.get? ad=ao (bObj (bif t then "dict.get" else "set.__contains__") (.ref l.a))) (by rw[d.2];rfl) (λh W=>(by
   exact⟨.machine,.inr (.inl rfl),(Looks.ld W).andThen .now⟩)) (wmN (kQ O d M S1 (F.nx L) q) λa s2 p=>?_)
  obtain⟨ps,kw⟩:=a
  obtain⟨J,S2,G,rs,q⟩:=p
  subst J
  have c:=G.imm _ _ Z (by simp [aZ])
  refine⟨c,?_⟩
  have N:=L.trans G
  have g:=aT G.pre R
  cases t with
  |true=>
   replace q:=show Lf (twoV _) _ from q
   refine q.elim λkv w q=>q.elim λd hd q=>xE (uO S2 g (yW hd)) λkvs D=>jB ((by
    intro ρ h I vs p r e
    refine xEE (tQ e rfl (λ_=>rfl) λ_ _ _ _=>rfl) λ_ _ z=>?_;subst z
    refine xEA (dr.mp e) λk j e=>bV r.a2 λa b A ra rb=>rwL A ?_
    refine xE (ra.tiE j) λt B=>rwL B ?_
    exact cxP e ⟨t,b,rfl,rb⟩:∀{ρ:aq Lc}{h:jy}{I:aq bz}{vs:aq V}{p:Int×V}(r:VRs ρ h I vs)(e:twoV vs=ao p),∃ t u,I= [.int p.1 t,u]/\VR ρ h u p.2) rs w) λt u e k=>?_
   subst e
   refine aCz Y S2 D c ?_
   rcases(D.f kv.1).same with ⟨e,y⟩ |⟨x',v',e,y,rv⟩
   ·rw[e];rw[y]at q;exact bR.from N (.tok S2 k q)
   ·rw[e];rw[y]at q;exact bR.from N (.tok S2 rv q)
  |false=>
   replace q:=show Lf ((one _).bind Ti) _ from q
   refine q.elim λk j q=>xEA (bt.mp j) λv hv j=>xEA (jO rs hv) λu e k=>?_
   subst e
   refine xE (k.tiE j) λt m=>rwL m ?_
   exact k7 (S2.objs i _ l q.1 g) λg1 g2 n t T X=>aCy c T X (bR.from N (.tok S2 (.bool _) q.2)))
theorem Room.deeper(h:Room (r+1) A)(env:Env):Room r (A.deeper env):=by
 refine xAA h λh1 a b=>⟨h1,(A30 a:A.depth+1+10*r<=700),?_⟩
 ·exact(zzM1 0x147ea0f69068f83f68000007ea0f41f69001a3ea00007 [A.units,r] ⋯ b:A.units+3+40*r<=8000)
def lo0:Lo:=λq=>none
def loB:aq Str->aq V->Lo->Lo
 |x::xs,v::vs,lo=>loB xs vs (upd lo x v)
 |_,_,lo=>lo
theorem aHr(c:Str->bn ka)(xs:aq Str):∀ {f:aq bz}{vs:aq V}{m cm:Str->bn bz}{lo:Lo},VRs ρ h f vs->f.length=xs.length-> (∀ x∈xs,c x=ao .local\/c x=ao .cell)-> (∀ x,c x=ao .local->OV ρ h (m x) (lo x))->(∀ x,c x=ao .cell->OV ρ h (cm x) (lo x))-> (∀ x,c x=ao .local->OV ρ h (bindL c (xs.zip f) m x) (loB xs vs lo x))/\(∀ x,c x=ao .cell->OV ρ h (bindC c (xs.zip f) cm x) (loB xs vs lo x)):=by
 induction xs with
 |nil=>
  intro f vs m cm lo r g _ a b
  cases r with
  |nil=>exact⟨a,b⟩
  |cons=>exact ca g (Nat.succ_ne_zero _)
 |cons x xs j=>
  intro f vs m cm lo r g i l n
  cases r with
  |nil=>exact ca g (Nat.succ_ne_zero _).symm
  | @cons u f v vs a b=>
  simp only[List.zip_cons_cons,bindL,bindC,(by exact λx xs v vs lo=>rfl:∀(x:Str)(xs:aq Str)(v:V)(vs:aq V)(lo:Lo),loB (x::xs) (v::vs) lo=loB xs vs (upd lo x v))]
  refine Or.elim (i x ce) (λq=>?_) λq=>?_
  ·refine rwL (cj q) (rwL (cj q) (j b (Nat.succ.inj g) (λy d=>i y (b4 _ d)) (λy d=>?_) (λy d=>?_)))
   ·by_cases e:y=x
    ·simp [upd,e];exact a
    ·simp [upd,e];exact l y d
   ·have e:y≠x:=by rintro rfl;cases (q▸d)
    simp [upd,e];exact n y d
  ·have k: ¬c x=ao .local:=by rw[q];intro z;cases z
   refine rwL (cc k) (rwL (cc k) (j b (Nat.succ.inj g) (λy d=>i y (b4 _ d)) (λy d=>?_) (λy d=>?_)))
   ·have e:y≠x:=by rintro rfl;cases (q▸d)
    simp [upd,e];exact l y d
   ·by_cases e:y=x
    ·simp [upd,e];exact a
    ·simp [upd,e];exact n y d
set_option tactic.hygienic true in
theorem fU:∀ (a:aq (Str×ka)) (n:Nat) (acc:aq (Str×dw)),(acc.lookup x).isSome=be\/(∃ k,(x,k)∈a/\k= .cell)->((cellsFrom n a acc).lookup x).isSome=be:=λl=>by
 induction l with
 |nil=>
  intro _ _ h
  rcases h with h |⟨k,h,_⟩
  ·exact h
  ·cases h
 |cons g r f=>
  obtain⟨y,k⟩:=g
  intro n acc h
  unfold cellsFrom
  split
  ·rename_i d
   refine f (n+1) _ ?_
   rcases h with h |⟨c,h,b⟩
   ·left
    simp only[List.lookup]
    split
    ·rfl
    ·exact h
   ·refine Or.elim (du.mp h) (λe=>?_) λe=>?_
    ·refine cxP e ?_;left;simp [List.lookup]
    ·exact .inr ⟨c,e,b⟩
  ·rename_i d
   refine f n _ ?_
   rcases h with h |⟨c,h,b⟩
   ·exact .inl h
   ·refine Or.elim (du.mp h) (λe=>?_) λe=>?_
    ·cases e;subst b;exact ca rfl d
    ·exact .inr ⟨c,e,b⟩
structure Def(C:Cx)(a:dw)(fd:ty)(body:aq je):Prop where
 obj:∃ o,C.base.heap.get? a=ao o/\o.data= .func fd
 code:C.base.heap.CodeRec fd.code fd.qualname
 body:fd.body= .stmts body
 clo:fd.closure= []
 gl:fd.globals=fu
 bi:fd.builtins=jN
 kind:fd.scope.kind= .function
 co:fd.scope.isCoroutine=aL
 free:∀ x:Str,fd.scope.names.lookup x≠ao .free
theorem Fm.call{a:dw}(D:Def C a fd body)(S:Sim C H ρ s)(hu:VRs ρ s.heap l vs)(v:l.length=d.length)(z:∀ x∈d,fd.scope.names.lookup x=ao .local\/fd.scope.names.lookup x=ao .cell)(I:InCallC s (ie fd s.heap.objs.size a).locals (bindL (ie fd s.heap.objs.size a).kindOf (d.zip l) λA=>none) (ie fd s.heap.objs.size a).cells (bindC (ie fd s.heap.objs.size a).kindOf (d.zip l) λA=>none) s1):Sim C H ρ s1/\Nx ρ noW s ρ s1/\Fm C (ie fd s.heap.objs.size a) ρ s1 (loB d vs lo0)/\(∀ b,Wr (ie fd s.heap.objs.size a) b->s.heap.get? b=none):=by
 obtain⟨⟨⟨h',tk,e⟩,ns,f,n⟩,i,j,h⟩:=I
 subst e
 have k:∀ b,Wr (ie fd s.heap.objs.size a) b->s.heap.get? b=none:=by
  rintro b (rfl |⟨x,hx⟩)
  ·exact bG _
  ·cases q:s.heap.get? b with
   |none=>rfl
   |some o=>exact ca (show s.heap.objs.size<b from (h x b (mem_of_lookup hx))) (Nat.not_lt.mpr (Nat.le_of_lt (Heap.lt_size q)))
 have B:=aHr (ρ:=ρ) (ie fd s.heap.objs.size a).kindOf d (m:=λA=>none) (cm:=λA=>none) (lo:=lo0) (hu.mono (cy ρ) (cY f)) v z (λA A=>trivial) (λA A=>trivial)
 refine⟨(S.ext f),(.ext f),⟨D.kind,D.gl,D.bi,⟨_,ns,B.1⟩,λx hx=>?_,λb p=>⟨fA S (k b p),d7 S (k b p)⟩,λx c hx=>?_,λx y c hx u=>?_,?_⟩,k⟩
 ·refine Or.elim hx (λhx=>(xE (ph.mp (fU _ _ _ (.inr ⟨_,mem_of_lookup hx,rfl⟩))) λc r=>xEA (i x c r) λo t w=>⟨c,o,_,r,t,w,B.2 x hx⟩)) λhx=>?_
  ·exact ca hx (D.free x)
 ·exact λq=>(Nat.lt_irrefl _ (q▸(h x c (mem_of_lookup hx))))
 ·exact name_of_addr j (mem_of_lookup hx) (mem_of_lookup u)
 ·rintro b (rfl |⟨x,hx⟩)
  ·exact iZ ns λo A A g A=>⟨o,g⟩
  ·exact xEA (i x b hx) λo g A=>⟨o,g⟩
theorem Nx.leave(a:Nx ρ noW s ρ d)(b:Nx ρ W d c s1)(g:∀ x,W x->s.heap.get? x=none):Nx ρ noW s c s1:=by
 have T:=a.wr.trans b
 exact⟨T.pre,T.new,λx o e f h=>T.kp x o e f (λq=>by cases ((g x q)▸e)),T.imm,T.al⟩
def jJ(Q:EK):SK:=λfl q H=>match fl with | .ret v=>Q v H | .next=>Q .none H |_=>fm
def iX(names:aq Str)(more:aq V)(f:SF):CF:=λvs H Q=>(vs++more).length=names.length/\f (loB names (vs++more) lo0) H (jJ Q)
def Binds(C:Cx)(fd:ty)(names:aq Str)(dflt:aq bz):Prop:=∀ (s:bv) (us:aq bz),(∀ b o,C.base.heap.get? b=ao o->s.heap.get? b=ao o)->(us++dflt).length=names.length->BindsTo s fd ⟨us,[]⟩ (names.zip (us++dflt))
def u6(C:Cx)(ρ:aq Lc)(s:bv)(Q:EK):qs->bv->Prop
 | .ok (.ret x),s'=>bR C ρ s Q x s'
 |_,_=>fm
theorem j4{a:dw}(D:Def C a fd body){b:aq Str}(i:fd.scope.isGenerator=aL)(w:Binds C fd b d)(hd:∀ ρ h,VRs ρ h d more)(u:∀ x∈b,fd.scope.names.lookup x=ao .local\/fd.scope.names.lookup x=ao .cell)(B:∀ L,SVs C r (ie fd L a) body f)(t:Room (r+1) A)(S:Sim C H ρ s)(hu:VRs ρ s.heap m vs)(e:iX b more f vs H Q):kN C.M A (.call (.ref a) ⟨m,[]⟩) (u6 C ρ s Q) s:=by
 refine xEA D.obj λo z g=>xA e λhlen e=>?_
 have c:=(hu.append (hd _ _)).length.trans hlen
 refine codeAny_call_function t.lt (S.keep _ _ z) g D.co i D.body (D.code.keeps S.keep) (w s m S.keep c _ _ _ _ (rwL D.clo (ry D.kind (λx l=>((λx l=>u x.1 (List.of_mem_zip l).1) x l).imp_right λq=>⟨q,fU _ _ _ (.inr ⟨_,mem_of_lookup q,rfl⟩)⟩) λenv y s1 I=>?_)))
 subst y
 refine xAAA (Fm.call D S (hu.append (hd _ _)) c u I) λS1 o v j=>⟨(C.lim.keeps S.keep).keeps I.toInCall.keep,codeAny_func (wmN (B s.heap.objs.size (t.deeper _) S1 v e) λfw s2 p=>?_)⟩
 obtain⟨S2,n,E,k,q⟩:=p
 cases k with
 |ret k=>exact⟨S2,o.leave n j,k,q⟩
 |next=>exact⟨S2,o.leave n j,.none,q⟩
 |brk=>exact q.elim
 |cont=>exact q.elim
def CC(C:Cx)(r:Nat)(f:bz)(g:CF):Prop:=∀ {A:eu}{s:bv}{ρ:aq Lc}{H:MH}{us:aq bz}{vs:aq V}{Q:EK},Room r A->Sim C H ρ s->VRs ρ s.heap us vs->g vs H Q->kN C.M A (.call f ⟨us,[]⟩) (u6 C ρ s Q) s
theorem CC.cv{a:dw}(b:C.base.heap.get? a=ao o)(d:o.data= .func fd)(h:CC C r (.ref a) g):CV C r (.ref a) g:=by
 refine⟨λhp c=>⟨.frame,.inl rfl,(Looks.ld (c _ _ b)).andThen (by exact rwL d .now)⟩,λhr S hu e=>jh (k6 (h hr S hu e) λrr s' h=>?_)⟩
 rcases rr with x | (x |_ |_ |_)<;>first |exact h |exact h.elim
theorem CV.def_{a:dw}(D:Def C a fd body){b:aq Str}(g:fd.scope.isGenerator=aL)(k:Binds C fd b c)(j:∀ ρ h,VRs ρ h c more)(l:∀ x∈b,fd.scope.names.lookup x=ao .local\/fd.scope.names.lookup x=ao .cell)(m:∀ L,SVs C r (ie fd L a) body f):CV C (r+1) (.ref a) (iX b more f):=let ⟨_,i,d⟩:=D.obj
 CC.cv i d λhr S hu e=>j4 D g k j l m hr S hu e
def iM(cells:aq (Str×dw))(l:aq (Str×ka)):aq (Str×dw)->aq (Str×dw):=l.rec (λacc=>acc) λp q ih acc=>if p.2== .free then ih ((p.1,(cells.lookup p.1).getD 0)::acc) else ih acc
theorem qQ{a:aq (Str×dw)}(h:(k== .free)=be):iM a ((n,k)::r) acc=iM a r ((n,(a.lookup n).getD 0)::acc):=cj h
theorem qR{a:aq (Str×dw)}(h: ¬(k== .free)=be):iM a ((n,k)::r) acc=iM a r acc:=cc h
def yE(env:Env)(n:Str)(k:ka):cw:=k== .free && env.scope.kind== .function && env.kindOf n==ao .cell
def gY(env:Env)(sc:qk)(L:dw):Env:={(newEnv sc L env.globals (iM env.cells sc.names []) env.qual none .none (ao env) jN) with scope:= {sc with names:=sc.names.map λp=>if yE env p.1 p.2 then(p.1,.cell) else(p.1,p.2)}}
theorem p9{f:Str->ka->ka}:∀ l:aq (Str×ka),(l.map λp=>(p.1,f p.1 p.2)).lookup x=(l.lookup x).map (f x)
 | []=>rfl
 | (n,k)::r=>by
  simp only[jf,List.lookup]
  cases h:x==n with
  |true=>obtain rfl:=kb.mp h;rfl
  |false=>exact p9 r
theorem kO(env:Env)(a:qk)(L:dw)(x:Str):(gY env a L).kindOf x=(a.names.lookup x).map λk=>if yE env x k then .cell else k:=by
 show(a.names.map λp=>if yE env p.1 p.2 then(p.1,NameKind.cell) else(p.1,p.2)).lookup x=_
 rw[<-p9 (f:=λn k=>if yE env n k then .cell else k)]
 congr 1
 refine lI λp q=>?_
 split<;>rfl
structure mX(env:Env)(sc:qk)(hid:aq Str):Prop where
 kind:sc.kind= .function
 nocell:(sc.names.all λp=>p.2 != .cell)=be
 free:(sc.names.all λp=>p.2 != .free || (env.kindOf p.1==ao .cell))=be
 hid:(sc.names.all λp=>p.2 != .local || (sc.names.lookup p.1==ao .local && hid.contains p.1))=be
def hide(hid:aq Str)(lo:Lo):Lo:=λx=>if hid.contains x then none else lo x
theorem Fm.comp(K:mX env j v)(X:∀ x∈v,j.names.lookup x≠ao .free)(S:Sim C H ρ s)(F:Fm C env ρ s lo)(Q:s.heap.get? L=none)(A:s1.heap.Ns L λ_=>none)(N:Nx ρ noW s ρ s1):Fm C (gY env j L) ρ s1 (hide v lo)/\(∀ b,Wr (gY env j L) b->b=L\/Wr env b):=by
 have G:∀ p∈j.names,p.2= .free->∃ c,env.cells.lookup p.1=ao c:=λp t i=>by
  have h:=hZ.mp K.free p t
  rw[i]at h
  simp at h
  exact iZ (F.cl p.1 (.inl h)) λc _ _ m _=>⟨c,m⟩
 have d:∀ x c,(gY env j L).cells.lookup x=ao c->env.cells.lookup x=ao c:=λx c h=>by
  refine Or.elim ((by
   exact λ{a x c}=>λl=>by
     induction l with
     |nil=>
      exact λ_ _ h=>(.inl h)
     |cons M r D=>
      obtain⟨n,k⟩:=M
      intro acc m h
      by_cases i:(k== .free)=be
      ·refine Or.elim (D _ (λp t=>m p (b4 _ t)) (rwR (qQ i) h)) (λq=>?_) λq=>?_
       ·refine Or.elim (du.mp q) (λe=>?_) λe=>?_
        ·cases e
         refine xE (m (x,k) ce (by simpa using i)) λc B=>?_
         right;simp at B;rw[B];rfl
        ·exact .inl e
       ·exact .inr q
      ·exact D _ (λp t=>m p (b4 _ t)) (rwR (qR i) h):∀{a:aq (Str×dw)}{x:Str}{c:dw},∀ (f:aq (Str×ka)) (acc:aq (Str×dw)),(∀ p∈f,p.2= .free->∃ c,a.lookup p.1=ao c)->(x,c)∈iM a f acc->(x,c)∈acc\/a.lookup x=ao c) j.names [] G (mem_of_lookup h)) (λq=>?_) λq=>?_
  ·cases q
  ·exact q
 have O:∀ b,Wr (gY env j L) b->b=L\/Wr env b:=by
  rintro b (rfl |⟨x,hx⟩)
  ·exact .inl rfl
  ·exact .inr (.inr ⟨x,d x b hx⟩)
 have I:=F.next N λ_ _ q=>q
 refine⟨⟨K.kind,F.gl,F.bi,⟨_,A,λx hx=>?_⟩,λx hx=>?_,λb J=>?_,λx c m=>?_,λx y c hx U=>F.inj x y c (d x c hx) (d y c U),λb J=>?_⟩,O⟩
 ·rw[kO]at hx
  have V:v.contains x=be:=by
   cases i:j.names.lookup x with
   |none=>cases (i▸hx)
   |some k=>
    rw[i]at hx
    simp only[pd,Option.some.injEq]at hx
    split at hx
    ·cases hx
    ·subst hx
     have h:=hZ.mp K.hid _ (mem_of_lookup i)
     simp at h
     simpa using h.2
  delta hide
  rw[cj V]
  trivial
 ·rw[kO]at hx
  have w:j.names.lookup x=ao .free:=by
   cases i:j.names.lookup x with
   |none=>rw[i]at hx;refine Or.elim hx (λhx=>?_) λhx=>?_<;>cases hx
   |some k=>
    have P:=hZ.mp K.nocell _ (mem_of_lookup i)
    rw[i]at hx
    simp only[pd,Option.some.injEq]at hx
    by_cases z:yE env x k=be
    ·have:=by unfold yE at z;simp at z;exact z.1.1
     rw[this]
    ·rw[cc z]at hx
     refine Or.elim hx (λhx=>?_) λhx=>?_
     ·subst hx;simp at P
     ·rw[hx]
  have R:env.kindOf x=ao .cell:=by
   simpa using (hZ.mp K.free _ (mem_of_lookup w))
  refine cN (I.cl x (.inl R)) λc o u T P Z W=>xE (ph.mp ((by
   exact λ{a x}=>λl=>by
     induction l with
     |nil=>
      refine λ_ _ h=>(Or.elim h (λh=>h) λh=>?_)
      ·cases h
     |cons M r D=>
      obtain⟨n,k⟩:=M
      intro acc m h
      by_cases i:(k== .free)=be
      ·refine rwL (qQ i) (D _ (λp t=>m p (b4 _ t)) (Or.elim h (λh=>?_) λh=>?_))
       ·left
        simp only[List.lookup]
        split
        ·rfl
        ·exact h
       ·refine Or.elim (du.mp h) (λe=>?_) λe=>?_
        ·refine cxP e ?_;left;simp [List.lookup]
        ·exact .inr e
      ·refine rwL (qR i) (D _ (λp t=>m p (b4 _ t)) (Or.elim h (λh=>(.inl h)) λh=>?_))
       ·refine Or.elim (du.mp h) (λe=>?_) λe=>?_
        ·cases e;exact ca rfl i
        ·exact .inr e:∀{a:aq (Str×dw)}{x:Str},∀ (f:aq (Str×ka)) (acc:aq (Str×dw)),(∀ p∈f,p.2= .free->∃ c,a.lookup p.1=ao c)->(acc.lookup x).isSome=be\/(x,NameKind.free)∈f->((iM a f acc).lookup x).isSome=be) j.names [] G (.inr (mem_of_lookup w)))) λc' E=>cyS (T▸(d x c' E)) λzq=>?_;subst zq
  refine⟨c,o,u,E,P,Z,?_⟩
  delta hide
  exact rwL (cc (λq=>X x (by simpa using q) w)) W
 ·rcases O b J with rfl |q
  ·exact⟨fA S Q,d7 S Q⟩
  ·exact I.own b q
 ·intro q
  have Y:c=L:=q
  refine xE (F.alv L (.inr ⟨x,d x L (rwR Y m)⟩)) λo z=>?_
  cases (Q▸z)
 ·rcases O b J with rfl |q
  ·exact iZ A λo _ _ g _=>⟨o,g⟩
  ·exact I.alv b q
def LW(env:Env):dw->Prop:=λb=>b=env.locals
noncomputable abbrev ALV(C:Cx)(r:Nat)(env:Env)(t:Expr)(f:AF):Prop:=AVW C LW r env t f
theorem ALV.name{pos}(a:env.kindOf x=ao .local):ALV C r env (.Name x pos) (aN x):=λq q q q q q q q q S F rv e=>rD (gZ (W:=LW env) S F rv (.inl ⟨a,rfl⟩) λq S N F=>⟨S,N,F,e⟩)
noncomputable abbrev ALVs(C:Cx)(r:Nat)(env:Env)(ts:aq Expr)(f:AFs):Prop:=q8 C LW r env ts f
theorem ALV.tuple{b:aq Expr}{pos}(h:ALVs C r env b g)(c:(fp b env).length=n)(a:(fp b env).findIdx? (·.1)=none):ALV C r env (.Tuple b k pos) (aTup n g):=AVW.tuple h c a
def gG(K:ItK C):Prop:=∀ {A:eu}{s:bv}{ρ:aq Lc}{H:MH}{it:K.σ}{x:bz}{X:dw->Prop}{Q:bz->bv->Prop},Sim C H ρ s->(∃ y,K.nx it H y)->K.rel ρ s it x X->Q x s->bI C.M A (um x) Q NoE s
theorem gG.list:gG (bA C):=by
 rintro A s ρ H it x X Q _ _ ⟨a,rfl,rfl,l,c,b⟩ h
 exact wpAny_pyIter_listiter b h
theorem gG.tuple:gG (jE C):=by
 rintro A s ρ H it x X Q _ _ ⟨a,rfl,rfl,t,e,n,c,d,b⟩ h
 exact wpAny_pyIter_tupleiter b h
theorem gG.range:gG (d8 C):=by
 rintro A s ρ H it x X Q _ _ ⟨a,rfl,rfl,b⟩ h
 exact wpAny_pyIter_rangeiter b h
theorem gG.enum:gG (nA C):=by
 rintro A s ρ H it x X Q _ _ R h
 cases R with
 |mk b c a d=>exact wpAny_pyIter_enum a h
def CnV(C:Cx)(r:Nat)(env:Env)(cs:aq Expr)(f:TF):Prop:=∀ ⦃A:eu⦄⦃s:bv⦄⦃ρ:aq Lc⦄⦃H:MH⦄⦃lo:Lo⦄⦃Q:cw->MH->Prop⦄,Room r A->Sim C H ρ s->Fm C env ρ s lo->f lo H Q->
  bI C.M A (forIn cs be λc ok=>if ok=be then(do let ok<-PySem.isTrue c env (iw c env);pure (ForInStep.yield ok)) else pure (ForInStep.yield ok)) (nU C ρ s Q) NoE s
theorem CnV.nil:CnV C r env [] (tK be):=by
 exact λA s ρ H lo Q a S F e=>(rwL uc (zzP ⟨S,.refl,e⟩))
theorem CnV.cons{a:aq Expr}(h:TV C r env c f)(hs:CnV C r env a g):CnV C r env (c::a) (aW f g):=by
 intro A s ρ H lo Q j S F q
 rw[jo,cj rfl]
 exact zzB (zzB (h.run j S F q λ{b l l l} i e q=>zzP (match b,q with
  |true,q=>wmN (hs j i (F.nx e) q) λl l p=>p.from e
  |false,q=>(by
   exact λ{M A E s Q}=>λn=>by
     induction n with
     |nil=>
      exact λh=>(rwL uc (zzP h))
     |cons c a k=>
      intro h
      rw[jo,cc (by decide)]
      exact zzB (zzP (k h)):∀{M:ux}{A:eu}{E:bz->bv->Prop}{s:bv}{Q:cw->bv->Prop},∀ a:aq Expr,Q aL s->bI M A (forIn a aL λc d=>if d=be then(do let d<-PySem.isTrue c env (iw c env);pure (ForInStep.yield d)) else pure (ForInStep.yield d)) Q E s) _ ⟨i,e,q⟩)))
noncomputable abbrev LK:=Lo->MH->Prop
noncomputable abbrev BF:=Nat->Lo->MH->LK->Prop
def aBs(elt:Expr)(gens:aq lu)(sc:qk)(pos:Pos)(d:Nat)(acc:bz)(env:Env)(K:Sem PySem.Fin):Sem PySem.Fin:=
 match gens[d+1]? with
 |some g'=>do
  let x<-iw g'.iter env
  vo g'.iter.pos
  if (g'.is_async != 0)=be then do
    let x<-foldedIterable g'.iter x
    let it<-tX [x] (if (g'.is_async != 0)=be then asyncIter x else um x)
    let _<-runOwn (Code.compStart (elt.ListComp gens sc pos) (d+1) it acc env) env
    K
   else do
    let x<-g4 g'.iter env x
    let it<-tX [x] (if (g'.is_async != 0)=be then asyncIter x else um x)
    let _<-runOwn (Code.compStart (elt.ListComp gens sc pos) (d+1) it acc env) env
    K
 |none=>(do
   let v<-iw elt env
   let _<-call (Value.builtin "list.append") [acc,v]
   pure ():Sem PUnit) >>=λq=>K
def BV(C:Cx)(r:Nat)(env:Env)(elt:Expr)(gens:aq lu)(sc:qk)(pos:Pos)(d:Nat)(bf:BF):Prop:=∀ ⦃A:eu⦄⦃s:bv⦄⦃ρ:aq Lc⦄⦃H:MH⦄⦃lo:Lo⦄⦃Q0:LK⦄⦃ai:Nat⦄⦃l:Lc⦄⦃Q:PySem.Fin->bv->Prop⦄⦃K:Sem PySem.Fin⦄,Room r A->Sim C H ρ s->Fm C env ρ s lo->ρ[ai]? =ao l->bf ai lo H Q0->
  (∀ {s' ρ' lo' H'},Sim C H' ρ' s'->Nx ρ (LW env) s ρ' s'->Fm C env ρ' s' lo'->Q0 lo' H'->bI C.M A K Q NoE s')->bI C.M A (aBs elt gens sc pos d (.ref l.a) env K) Q NoE s
def aV(f:EF):BF:=λai lo H Q=>f lo H λv H1=>Lf (H1[ai]?.bind MO.own) λvs=>vs.length<1000000/\Q lo (H1.set ai (.list (vs++[v])))
theorem BV.last{b:Expr}(h:EV C r env b f)(m:gens[d+1]? =none):BV C r env b gens j pos d (aV f):=by
 intro A s ρ H lo y w l Q K v S F p q i
 delta aBs
 refine rwL m (zzB (zzB (h.run v S F q λ{x s1 u z H1} g c t q=>q.elim λvs o q=>(xEE (jM g (aT c.pre p) (lB o)) λxs n O=>?_))))
 have e:xs.size<=uR:=by exact rwL dx (A33 O.r.sz q.1)
 refine zzB (e7 slot_list_append ⟨_,O.x,rfl⟩ entry_list_append ?_ (args_list_append _ _))
 show bI _ _ (updateSeq l.a (·.push x) >>=λB=>ret .none) _ _ s1
 refine zzB (mi O.x rfl (zzP ⟨.none,rfl,zzP ?_⟩) e (by rw[Array.size_push];exact eH e))
 have st:=O.put (k:=s1.toks) g (λxs=>xs.push x) (by simpa using O.r.append (.cons t .nil))
 exact i st.1 (c.trans (st.2 _)).wr (F.nx (c.trans (st.2 _))) q.2
def lS(K:ItK C)(tgt:AF)(t:TF)(bf:Lo->MH->LK->Prop):Nat->K.σ->Lo->MH->LK->Prop
 |0,_,_,_,_=>fm
 |n+1,it,lo,H,Q=>K.nx it H λres H1=>match res with
  |none=>Q lo H1
  |some p=>tgt p.1 lo H1 λlo1 H2=>t lo1 H2 λb H3=>bif b then bf lo1 H3 (λlo2 H4=>lS K tgt t bf n p.2 lo2 H4 Q) else lS K tgt t bf n p.2 lo1 H3 Q
inductive CEnd(C:Cx)(env:Env)(ρ0:aq Lc)(s0:bv)(ai:Nat)(l:Lc)(Q:LK)(s':bv):Prop
 |mk {ρ':aq Lc}{lo':Lo}{H':MH} (S:Sim C H' ρ' s') (N:Nx ρ0 (LW env) s0 ρ' s') (F:Fm C env ρ' s' lo') (hl:ρ'[ai]? =ao l) (q:Q lo' H'):CEnd C env ρ0 s0 ai l Q s'
def q7(C:Cx)(env:Env)(ρ0:aq Lc)(s0:bv)(ai:Nat)(l:Lc)(Q:LK):qs->bv->Prop
 | .ok _,s'=>CEnd C env ρ0 s0 ai l Q s'
 | .error _,_=>fm
theorem l9{K:ItK C}(O:gens[d]? =ao ⟨target,iter,g,0⟩)(aa:gG K)(Z:ALV C r env target tgt)(W:CnV C r env g t)(Y:BV C r env c gens v pos d I)(h:K.tg target/\K.need<=r)(n:Nat){it:K.σ}(B:Room r A)(T:ρ[i]? =ao l)(N:Nx ρ0 (LW env) j ρ s)(S:Sim C H ρ s)(F:Fm C env ρ s lo)(R:K.rel ρ s it x X)(f:Apart C env ρ j X)(e:lS K tgt t (I i) n it lo H Q):kN C.M A (.compStart (.ListComp c gens v pos) d x (.ref l.a) env) (q7 C env ρ0 j i l Q) s:=by
 have L:=(by
  exact λ{K c target iter g gens v pos d tgt t I} O Z W Y h {i l}=>λk=>by
    induction k with
    |zero=>
     intro _ _ _ _ _ _ _ _ _ _ _ _ _ _ _ _ _ _ e
     exact e.elim
    |succ n ih=>
     intro A j s ρ0 ρ H lo it x X Q B T N S F R f e
     refine mh (rwL (Around.under_of_weight rfl rfl) (ni (fg (E:=NoE) ?_ (λ_ _ z=>z) (λ_ _ z=>z.elim))))
     delta compTurn
     simp only[O]
     refine zzB (fh (zzB (wmN (K.next h.2 B S R f.two e) λo s1 p=>?_)))
     cases p with
     |done S1 m q=>exact zzP ⟨S1,N.stepI m (λb q=>(f b q).1),F.nextI m (λb V q=>(f b q).2.2.2 V),aT m.pre T,q⟩
     |item S1 m ru R1 q=>
      have u:Apart C env _ j X:=λb q=>xE (K.alive R b q) λo' P=>⟨(f b q).1,m.owns P (f b q).2.1,(f b q).2.2⟩
      refine zzB (wmN (K.lgo B S1 R1 h.1 u.two) λ_ s2 p=>(xAA p λS2 I2 R2=>?_))
      have U:∀ {G s5 J H5},Sim C H5 G s5->Nx _ (LW env) s2 G s5->Fm C env G s5 J->lS K tgt t (I i) n _ J H5 Q->
        kN C.M A (.compLoop (.ListComp c gens v pos) d x (.ref l.a) env) (q7 C env ρ0 j i l Q) s5:=λS5 w F5 e5=>
       ih B (aT w.pre (aT m.pre T)) (((N.stepI m (λb q=>(f b q).1)).stepI I2 (λb q=>(f b q).1)).trans w) S5 F5 (K.mono R2 w.pre w.imm (λb o q P=>w.kp b o P (u b q).2.1 (λz=>(f b q).2.2.2 (.inl z))))
        (λb z=>xE (K.alive R2 b z) λo' P=>⟨(f b z).1,w.own P (u b z).2.1,(f b z).2.2⟩) e5
      refine zzB (eU.run (α:=tj) (Z B S2 ((F.nextI m (λb V q=>(f b q).2.2.2 V)).nextI I2 (λb V q=>(u b q).2.2.2 V)) (ru.mono I2.pre I2.imm) q) λS3 N3 F3 q=>zzB (wmN (W B S3 F3 q) λok s4 p=>?_))
      obtain⟨S4,N4,q⟩:=p
      have D:=N3.trans N4.wr
      cases ok with
      |false=>
       exact rwL (cc (by decide)) (zzP ⟨rfl,U S4 D (F3.nx N4) q⟩)
      |true=>
       exact rwL (cj rfl) (Y B S4 (F3.nx N4) (aT D.pre (aT m.pre T)) q λS5 w F5 q=>zzP ⟨rfl,U S5 (D.trans w) F5 q⟩):∀{K:ItK C}{c target iter:Expr}{g:aq Expr}{gens:aq lu}{v:qk}{pos:Pos}{d:Nat}{tgt:AF}{t:TF}{I:BF}(O:gens[d]? =ao ⟨target,iter,g,0⟩)(Z:ALV C r env target tgt)(W:CnV C r env g t)(Y:BV C r env c gens v pos d I)(h:K.tg target/\K.need<=r){i:Nat}{l:Lc},∀ (n:Nat){A:eu}{j s:bv}{ρ0 ρ:aq Lc}{H:MH}{lo:Lo}{it:K.σ}{x:bz}{X:dw->Prop}{Q:LK},Room r A->ρ[i]? =ao l->Nx ρ0 (LW env) j ρ s->Sim C H ρ s->Fm C env ρ s lo-> K.rel ρ s it x X->Apart C env ρ j X->lS K tgt t (I i) n it lo H Q-> kN C.M A (.compLoop (.ListComp c gens v pos) d x (.ref l.a) env) (q7 C env ρ0 j i l Q) s) O Z W Y h n B T N S F R f e
 have ac:∃ y,K.nx it H y:=by
  cases n with
  |zero=>exact e.elim
  |succ n=>exact⟨_,e⟩
 refine mh (rwL (Around.under_of_weight rfl rfl) (ni (fg (E:=NoE) ?_ (λ_ _ z=>z) (λ_ _ z=>z.elim))))
 delta compStart
 refine rwL (rfl:clausesOf (.ListComp c gens v pos)=gens) (rwL O (zzB (wpAny_askSetting (wpAny_ite ?_))))
 split
 ·first
   |exact zzB (zzP (zzP (And.intro rfl L)))
   |exact zzP (And.intro rfl L)
 ·exact zzB (pY (zzB (fh (zzB (aa S ac R (zzP (And.intro rfl L)))))))
theorem aHu{K:ItK C}{a:aq Lc}{s2:bv}(F:Fm C env ρ s lo)(c:∀ b,X b->s.heap.get? b=none/\¬Own a b/\C.base.heap.get? b=none):Apart C env a s X:=λb q=>
 ⟨(c b q).1,(c b q).2.1,(c b q).2.2,λhw=>by refine xE (F.alv b hw) λo d=>?_;cases (((c b q).1)▸d)⟩
def mB(K:ItK C)(fi:IF K)(tgt:AF)(t:TF)(bf:BF):BF:=λai lo H Q=>fi lo H λit H1=>∃ n,lS K tgt t (bf ai) n it lo H1 Q
theorem BV.more{K:ItK C}{a:Expr}{b:aq Expr}{m:IF K}(k:gens[d+1]? =ao ⟨target,iter,b,0⟩)(e:gG K)(G:IV K r env iter m)(D:ALV C r env target tgt)(L:CnV C r env b t)(z:BV C r env a gens j pos (d+1) i)(c:K.tg target/\K.need<=r)(hs:∀ x,g4 iter env x=pure x):BV C r env a gens j pos d (mB K m tgt t i):=by
 intro A s ρ H lo N M l Q K' o S F E q v
 delta aBs
 refine rwL k (zzB (wmN (G o S F q) λx s1 h=>zzB (fh (rwL (cc (by simp)) (zzB (ji (hs x) (zzB (cb (rwL (cc (by simp)) (wmN h λy s2 p=>zzB (wpAny_runOwn ?_)))))))))))
 obtain⟨S2,g,J,I,n,q⟩:=p
 refine k6 (l9 (ρ0:=ρ) k e D L z c n o (aT g.pre E) g.wr S2 (F.nx g) J (aHu (K:=K) (s2:=s2) F I) q) λrr s3 u=>?_
 cases rr with
 |ok f=>obtain⟨y,B,w,_,q⟩:=u;exact v y B w q
 |error _=>exact u.elim
theorem aHe{s:bv}{pos:Pos}{v:bn (bz->Sem tj)}(T:clausesOf e=g::gs)(hs:∀ x,g4 g.iter env x=pure x)(K:mX env l X)(w:∀ p∈l.names,p.2= .free->∃ c,env.cells.lookup p.1=ao c)(h:bI M A first (λx t=>bI M A (um x) (λit q=>bI M A j (λacc b=> ∀ h₄,h₄.Ns b.heap.objs.size (λ_=>none)->Heap.SameBut b.heap.objs.size (b.heap.push {cls:=.type "dict",data:=.dict #[]}) h₄->
    kN M A (.compStart e 0 it acc (gY env l b.heap.objs.size)) (λr s'=>match r with
     | .ok _=>(∃ m,s'.heap.Ns b.heap.objs.size m)/\(match v with
      |none=>∀ h',Heap.SameBut b.heap.objs.size s'.heap h'->Q acc {s' with heap:=h'}
      |some u=>bI M A (u acc) (λ_ k=>(∃ m,k.heap.Ns b.heap.objs.size m)/\∀ h',Heap.SameBut b.heap.objs.size k.heap h'->Q .none {k with heap:=h'}) E s')
     | .error _=>fm) {b with heap:=h₄}) E q) E t) E s):
  bI M A (uh e l env pos j aL first v) Q E s:=by
 delta uh
 refine rwL T ?_
 refine zzB (fg h (λx t G=>zzB (fh (zzB (ji (hs x) (zzB (cb (fg G (λit q F=>
  wpAny_standIf (zzB (fg F (λacc b D=>?_) λ_ _ h'=>h'))) λ_ _ h'=>h'))))))) λ_ _ h'=>h')
 have H:∀ {S:aq (Str×dw)->bv->Prop},S (iM env.cells l.names []) b->bI M A (closureFor l env) S E b:=by
  intro S N
  delta closureFor
  refine zzB ((by
   exact λ{M A E s} f hf=>λn=>by
     induction n with
     |nil=>
      exact λacc Q _ h=>(rwL uc (zzP h))
     |cons zx r Z=>
      obtain⟨name,d⟩:=zx
      intro acc Q R h
      rw[jo,hf]
      by_cases J:(d== .free)=be
      ·rw[cj J]
       rw[qQ J]at h
       refine xE (R (name,d) ce (by simpa using J)) λc I=>?_
       rw[I]at h
       exact zzB (zzB (wpAny_cellOf I (zzP (Z _ Q (λp o=>R p (b4 _ o)) h))))
      ·exact rwL (cc J) (zzB (zzP (Z _ Q (λp o=>R p (b4 _ o)) (rwR (qR J) h)))):∀{M:ux}{A:eu}{E:bz->bv->Prop}{s:bv}(f:Str×ka->aq (Str×dw)->Sem (ForInStep (aq (Str×dw))))(hf:∀ name d L,f (name,d) L=if d== .free then(do let a<-cellOf env name;pure (.yield ((name,a)::L))) else pure (.yield L)),∀ (i:aq (Str×ka)) (acc:aq (Str×dw)) (Q:aq (Str×dw)->bv->Prop),(∀ p∈i,p.2= .free->∃ c,env.cells.lookup p.1=ao c)-> Q (iM env.cells i acc) s->bI M A (forIn i acc f) Q E s) _ (λname d L=>by cases Y:d==NameKind.free<;>simp [Y]) l.names [] _ w (zzP N))
 refine zzB (H (zzB (wpAny_newFunctionEnv (λx W=>by simpa using (hZ.mp K.nocell x W)) (λx W=>by cases W) (λh₄ C B=>?_) K.kind)))
 dsimp only
 have hv:∀ (vs:aq (Str×ka)),(∀ p∈vs,p∈l.names)->∀ p∈vs,p.2= .local->(gY env l b.heap.objs.size).kindOf p.1=ao .local:=λvs P p o hl=>by
  have V:=hZ.mp K.hid p (P p o)
  rw[hl]at V
  simp at V
  rw[kO,V.1]
  rfl
 refine cb (zzB (jv (cb (wpAny_run (k6 (D h₄ C B) λr s' hr=>?_)))))
 cases r with
 |error x=>exact hr.elim
 |ok f=>
  refine xA hr λz92 N=>?_;obtain⟨m,hm⟩:=z92
  cases v with
  |none=>
   exact zzB (cb (wpAny_comp_letGo K.kind _ s' m (hv _ λp o=>((h7.mp (List.mem_reverse.mp o)).1)) hm λh' m' _ y=>zzP (N h' y)))
  |some u=>
   refine zzB (pY (zzB (cb (fg N ?_ λ_ _ z=>z))))
   rintro _ k ⟨⟨m',U⟩,O⟩
   refine zzB (wpAny_comp_letGo K.kind _ k m' (hv _ λp o=>(Or.elim (gb.mp o) (λz=>((h7.mp (List.mem_reverse.mp (List.mem_of_mem_drop z))).1)) λz=>?_)) U λh' m' _ y=>zzP (O h' y))
   ·exact(h7.mp (List.mem_reverse.mp (List.mem_of_mem_take z))).1
def bJ(K:ItK C)(hid:aq Str)(fi:IF K)(tgt:AF)(t:TF)(bf:BF):EF:=λlo H Q=>fi lo H λit H1=>∃ n,lS K tgt t (bf H1.length) n it (hide hid lo) (H1++[.list []]) λq H2=>Q (.ref H1.length) H2
inductive CoEnd(C:Cx)(ρ:aq Lc)(s:bv)(Q0:EK)(x:bz)(L:dw)(s':bv):Prop
 |mk {ρ' v H'} (hL:s.heap.get? L=none) (S:Sim C H' ρ' s') (N:Nx ρ (λb=>b=L) s ρ' s') (r:VR ρ' s'.heap x v) (ho: ¬Own ρ' L) (hb:C.base.heap.get? L=none) (hm:∃ m,s'.heap.Ns L m) (q:Q0 v H'):CoEnd C ρ s Q0 x L s'
set_option tactic.hygienic true in
theorem sP{K:ItK C}{fi:IF K}(w:mX env g y)(hh:(y.all λx=>g.names.lookup x != ao .free)=be)(R:gG K)(hi:IV K r env iter fi)(ht:∀ L,ALV C r (gY env g L) target tgt)(V:∀ L,CnV C r (gY env g L) v t)(hb:∀ L,BV C r (gY env g L) N (⟨target,iter,v,0⟩::gs) g pos 0 bf)(W:K.tg target/\K.need<=r)(hs:∀ x,g4 iter env x=pure x)(hr:Room r A)(S:Sim C H ρ s)(F:Fm C env ρ s lo)(q:bJ K y fi tgt t bf lo H Q0)(hQ:∀ x L s',CoEnd C ρ s Q0 x L s'-> (match G with
    |none=>∀ h',Heap.SameBut L s'.heap h'->Q x {s' with heap:=h'}
    |some u=>bI C.M A (u x) (λ_ i=>(∃ m,i.heap.Ns L m)/\∀ h',Heap.SameBut L i.heap h'->Q .none {i with heap:=h'}) NoE s')):
  bI C.M A (uh (.ListComp N (⟨target,iter,v,0⟩::gs) g pos) g env p (newList []) aL (iw iter env) G) Q NoE s:=by
 have ae:∀ p∈g.names,p.2= .free->∃ c,env.cells.lookup p.1=ao c:=λp hp hk=>by
  have h:=hZ.mp w.free p hp
  rw[hk]at h
  exact iZ (F.cl p.1 (.inl (pz h))) λc _ _ V _=>⟨c,V⟩
 refine aHe rfl hs w ae (wmN (hi hr S F q) λx s1 hx=>wmN hx λy s2 p=>?_)
 obtain⟨S2,N2,R2,I,n,q⟩:=p
 rename_i U X it H1
 refine ui ?_ (by rw[dx];decide)
 have Y:=S2.alloc {cls:=.type "list",data:=.seq #[]} (.list []) ⟨rfl,rfl,#[],0,Heap.get?_push_size _ rfl,.nil⟩
 have E:Nx U noW s2 _ _:=.alloc {cls:=.type "list",data:=.seq #[]}
 intro h4 T P
 have a:∀ b o,(s2.heap.push {cls:=.type "list",data:=.seq #[]}).get? b=ao o->h4.get? b=ao o:=λb o e=>by
  exact rwL (P.2 b (gq (Heap.lt_size e))) (Heap.get?_push_of_some _ e)
 have d:=E.trans (.ext (k:=s2.toks) a)
 have j:(s2.heap.push {cls:=.type "list",data:=.seq #[]}).get? (s2.heap.push {cls:=.type "list",data:=.seq #[]}).objs.size=none:=bG _
 refine xA (Fm.comp w (λx hx=>by simpa using (hZ.mp hh x hx)) Y ((F.nx N2).nx E) j T (.ext (k:=s2.toks) a)) λF4 hW=>?_
 refine k6 (l9 (ρ0:=ρ) rfl R (ht _) (V _) (hb _) W n hr (S2.last (l:=⟨s2.heap.objs.size,s2.heap.objs.size,none⟩)) (N2.trans d).wr (Y.ext a) F4
  (K.mono R2 E.pre d.imm (λb o B O=>d.kp b o O (I b B).2.1 (λz=>z))) (λb B=>?_) q) λrr s5 hL=>?_
 ·refine xE (K.alive R2 b B) λo' O=>⟨(I b B).1,d.own O (I b B).2.1,(I b B).2.2,λhw=>(Or.elim (hW b hw) (λz=>?_) λz=>?_)⟩
  ·refine xE (E.al _ _ O) λo2 e2=>?_
   rw[z,j]at e2;cases e2
  ·refine xE (F.alv b z) λo D=>?_;rw[(I b B).1]at D;cases D
 ·cases rr with
  |error _=>exact hL.elim
  |ok f=>
   obtain⟨S5,N5,F5,Z,q5⟩:=hL
   exact xEA F5.ns λm5 J _=>⟨⟨m5,J⟩,hQ _ _ s5 ⟨((cM (N2.trans E) Y j).1),S5,N5,.ref Z,(F5.own _ (.inl rfl)).1,(F5.own _ (.inl rfl)).2,⟨m5,J⟩,q5⟩⟩
theorem Sim.sameL(S:Sim C H ρ s)(hs:Heap.SameBut L s.heap h')(e:∃ m,s.heap.Ns L m)(b: ¬Own ρ L)(d:C.base.heap.get? L=none):Sim C H ρ {s with heap:=h'}/\Imm s.heap h':=by
 refine oC e λm o h f g c q=>?_
 have a: ¬aZ o:=by simp [aZ,c]
 exact⟨S.side hs g a b d,dT hs g a⟩
theorem Nx.gone(d:Nx ρ (λb=>b=L\/W b) s c s1)(i:s.heap.get? L=none)(a:Heap.SameBut L s1.heap h')(h:Imm s1.heap h'):Nx ρ W s c {s1 with heap:=h'}:=by
 have g:∀ {b o},s.heap.get? b=ao o->b≠L:=λe q=>by rw[q,i]at e;cases e
 exact⟨d.pre,d.new,λb o e f j=>(a.2 b (g e)).trans (d.kp b o e f λq=>q.elim (g e) j),d.imm.trans h,λb o e=>xE (d.al b o e) λo' k=>⟨o',(a.2 b (g e)).trans k⟩⟩
theorem EV.comp{K:ItK C}{a:qk}{b:aq Str}{m:IF K}(g:mX env a b)(v:(b.all λx=>a.names.lookup x != ao .free)=be)(h:gG K)(o:IV K r env iter m)(n:∀ L,ALV C r (gY env a L) target tgt)(E:∀ L,CnV C r (gY env a L) c t)(i:∀ L,BV C r (gY env a L) d (⟨target,iter,c,0⟩::k) a pos 0 l)(f:K.tg target/\K.need<=r)(hs:∀ x,g4 iter env x=pure x):EV C r env (.ListComp d (⟨target,iter,c,0⟩::k) a pos) (bJ K b m tgt t l):=by
 intro A s ρ H lo Q B S F q
 rw[eval_ListComp]
 refine sP g v h o n E i f hs B S F q λx L s1 p h' e=>?_
 obtain⟨D,y,z,w,u,i,G,q⟩:=p
 exact xA (y.sameL e G u i) λS2 j=>⟨S2,(z.weaken λb q=>.inl q).gone D e j,w.mono (cy _) j,q⟩
set_option tactic.hygienic true in
theorem SV.assignC{K:ItK C}{J:IF K}(hk:env.kindOf x=ao .local)(D:qz (.ListComp j (⟨target,iter,c,0⟩::A) f pos) (ao (.Name x d)) h.line env=pure be)(B:mX env f k)(V:(k.all λx=>f.names.lookup x != ao .free)=be)(w:gG K)(T:IV K r env iter J)(ht:∀ L,ALV C r (gY env f L) target tgt)(Y:∀ L,CnV C r (gY env f L) c t)(n:∀ L,BV C r (gY env f L) j (⟨target,iter,c,0⟩::A) f pos 0 M)(htg:K.tg target/\K.need<=r)(hs:∀ x,g4 iter env x=pure x):SV C r env (.Assign [.Name x d] (.ListComp j (⟨target,iter,c,0⟩::A) f pos) h) (bD x (bJ K k J tgt t M)):=by
 refine λA s ρ H lo Q hr S F q=>(rwL (exec_Assign_Name_used _ _ _ _ D) (zzB (fh (zzB ?_))))
 rw[arm_evalThenUse_ListComp]
 refine zzB (sP B V w T ht Y n htg hs hr S F q λu L s1 p=>?_)
 obtain⟨E,W,O,U,I,z,Z,q⟩:=p
 rename_i X v2 H2
 have u: ¬Wr env L:=λhw=>by refine xE (F.alv _ hw) λo v=>?_;rw[E]at v;cases v
 refine rD (gZ W (F.next O (λb n e=>by subst e;refine xE (F.alv _ n) λo v=>?_;cases (E▸v))) U (u9 (.inl hk)) λs2 S2 N F2=>(pB Z λm o P ep g y=>?_))
 have l:∃ m,s2.heap.Ns L m:=⟨m,o,P,ep,N.kp L o g I u,y⟩
 exact⟨l,λh' a=>zzP (zzP (xA (S2.sameL a l I z) λS3 G=>⟨S3,((O.weaken λb q=>.inl q).trans (N.weaken λb q=>.inr q)).gone E a G,F2.nextI ⟨cy _,λl R=>by simp at R,λb o e _ i=>(a.2 b i).trans e,G,λb o e i=>⟨o,(a.2 b i).trans e⟩⟩ (λb n e=>by subst e;exact u n),.next,q⟩))⟩
def Sg(M:ux)(A:eu)(c:Code)(t:Sem PySem.Fin)(fs:aq Frame)(Φ:End->bv->Prop)(s:bv):Prop:=∀ Γ p,Γ.code=c->Γ.Woken A->∃ e s',Runs M Γ p t fs s e s'/\Φ e s'
theorem iC{K:α->Sem PySem.Fin}{H:bz->Sem PySem.Fin}{gd}{lv}(h:bI M (A.over c fs) m (λa s'=>Sg M A c (K a) fs Φ s') (λx s'=>Sg M A c (H x) fs Φ s') s):Sg M A c (m.wrap K H gd lv) fs Φ s:=by
 rintro d p rfl b
 exact runs_wrap_of_wp K H gd lv m (h (d.over fs) p (b.over fs)) (λa e s' h'=>h' d e rfl b) (λx e s' h'=>h' d e rfl b)
theorem aD1{a:Pos}(h:Sg M A c (k ()) fs Φ s):Sg M A c (.at a k) fs Φ s:=iC (H:=.raise) (gd:=id) (lv:=id) (fh h)
theorem aDz(h:Sg M A c (k ()) fs Φ s):Sg M A c (.point l k) fs Φ s:=iC (H:=.raise) (gd:=id) (lv:=λq=>l) (wpAny_point h)
theorem aIo{a:Code}{h}{g}{l}(j:∀ p,Sg M A a (M.den a) (.ret k h g l c p []::fs) Φ s):Sg M A c (.call a h g l k) fs Φ s:=by
 rintro d p rfl b
 exact jB (j p (d.goto a) p rfl (b.goto a)) λe s' i f=>⟨e,s',runs_call_seg i,f⟩
theorem aIn{k}{h}{g}{l}{a}{b}{j}(r:qs)(i:Sg M A a (k r) fs Φ s):Sg M A c (leafOf r) (.ret k h g l a b j::fs) Φ s:=by
 rintro f p rfl d
 exact jB (i (f.goto a) b rfl (d.goto a)) λe s' n m=>⟨e,s',Runs.pop r n,m⟩
theorem pH{a:Code}(i:a.quiet=be)(h:Sg M A a (M.den a) fs Φ s):Sg M A c (.pure (.again a)) fs Φ s:=by
 rintro d p rfl b
 exact jB (h (d.goto a) p rfl (b.goto a)) λe s' g f=>⟨e,s',Runs.head (λq q x=>.again i x) g,f⟩
theorem aD0(r:qs)(h:Φ (.ret r) s):Sg M A c (leafOf r) [] Φ s:=by
 rintro a p rfl _
 exact⟨.ret r,s,Runs.leaf r,h⟩
theorem aDw{v}{g}{l}(a:splitAtGen fs=none)(h:∀ p,Φ (.susp v g l k c p fs) s):Sg M A c (.yield v g l k) fs Φ s:=by
 rintro b p rfl _
 exact⟨_,s,Runs.yield' fs a,h p⟩
def aHz(M:ux)(A:eu)(Φ:End->bv->Prop)(r:Resume)(s:bv):ow->Prop
 | .fresh c=>r= .send .none/\Sg M A c (M.den c) [] Φ s
 | .suspended k₀ _ c _ fs _=>Sg M A c (k₀ r) fs Φ s
 |_=>fm
theorem xH{Q:α->bv->Prop}(u:s.gens[g]? =ao o)(d:aHz M A Φ r (s.setGen g .running) o)(m:∀ e a,Φ e a->e.quiet=be/\bI M A (k e.result) Q E (a.setGen g e.genState)):bI M A (.resume g r l k) Q E s:=by
 intro j p b
 rw[Sem.wp_resume]
 cases o with
 |fresh c=>
  refine xA d λz93 w=>?_;subst z93
  exact jB (w (j.wake c p) p rfl ((λc=>b.wake c p) c)) λe₁ a q i=>⟨_,_,by delta Wakes;exact rwL u ⟨e₁,a,q,(m e₁ a i).1,rfl,rfl⟩,(m e₁ a i).2 j p b⟩
 |suspended t v f h n cl=>
  exact jB (d (j.wake f p) h rfl ((λc=>b.wake c p) f)) λe₁ a q i=>⟨_,_,by delta Wakes;exact rwL u ⟨e₁,a,q,(m e₁ a i).1,rfl,rfl⟩,(m e₁ a i).2 j p b⟩
 |running=>exact d.elim
 |finished=>exact d.elim
theorem cW{K:ve->Sem PySem.Fin}{H:bz->Sem PySem.Fin}{st:je}{a:aq je}(h:Sg M A c ((exec st env).wrap (λf=>match f with | .next=>(n5 a env).wrap K H gd lv |f=>K f) H gd lv) fs Φ s):Sg M A c ((n5 (st::a) env).wrap K H gd lv) fs Φ s:=by rw[sV];exact h
theorem kT{K:ve->Sem PySem.Fin}{H:bz->Sem PySem.Fin}{a:Pos}(b:splitAtGen fs=none)(f:gd aL=aL)(h:bI M (A.over c fs) (iw e env) (λv s'=>∀ l k p,k (.send .none)=K .next->Φ (.susp v aL l k c p fs) s') (λx s'=>Sg M A c (H x) fs Φ s') s)(d:env.scope.isCoroutine=aL)(g:qi env=aL):Sg M A c ((exec (.Expr (.Yield (ao e) a) pos) env).wrap K H gd lv) fs Φ s:=by
 rw[exec_Expr env _ pos g rfl]
 show Sg M A c (.at pos λq=>((iw e env >>=λv=>(vo a >>=λq=>yieldOut env v)) >>=λx=>
  dropValue (.Yield (ao e) a) pos x).wrap K H gd lv) fs Φ s
 simp only[(λv=>by simp only[yieldOut,d,iu,mq]:∀ v,yieldOut env v=yieldValue v)]
 refine aD1 ?_
 rw[Sem.bind_eq_wrap',Sem.bind_eq_wrap',Sem.wrap_wrap,Sem.wrap_wrap]
 exact iC (fg h (λv s' h'=>(aD1 (aDw b λp=>(f▸(λl k p i=>h' l k p i)) _ _ p rfl))) λq q x=>x)
theorem sg_If{K:ve->Sem PySem.Fin}{H:bz->Sem PySem.Fin}{a:Expr}(h:bI M (A.over c fs) (isTrue a env (iw a env)) (λb s'=>if b=be then Sg M A c ((n5 b1 env).wrap K H gd lv) fs Φ s' else Sg M A c ((n5 d env).wrap K H gd lv) fs Φ s') (λx s'=>Sg M A c (H x) fs Φ s') s):Sg M A c ((exec (.If a b1 d pos) env).wrap K H gd lv) fs Φ s:=by
 rw[exec_If]
 show Sg M A c (.at _ λq=>(isTrue a env (iw a env) >>=λb=>if b=be then n5 b1 env else n5 d env).wrap K H gd lv) fs Φ s
 refine aD1 ?_
 rw[Sem.bind_eq_wrap',Sem.wrap_wrap]
 refine iC (fg h (λb s' e=>?_) λq q x=>x)
 cases b with
 |true=>exact e
 |false=>exact e
def MO.iv:MO->bn (Nat×Nat) | .itr (ao p)=>ao p |_=>none
theorem iv_mo(e:m.bind MO.iv=ao p):m=ao (.itr (ao p)):=by
 refine xEA (bt.mp e) λm b a=>rwL b ?_
 cases m with
 |itr o=>cases o with
  |none=>cases a
  |some q=>refine cxS a ?_;rfl
 |_=>cases a
inductive ItrN(C:Cx)(H:MH)(ρ:aq Lc)(s:bv)(j ci k:Nat)(vs:aq V):bn bz->bv->Prop
 |item {u v s'} (hv:vs[k]? =ao v) (S:Sim C (H.set j (.itr (ao (ci,k+1)))) ρ s') (N:∀ W,Nx ρ W s ρ s') (r:VR ρ s'.heap u v):ItrN C H ρ s j ci k vs (ao u) s'
 |done {s'} (hv:vs[k]? =none) (S:Sim C (H.set j (.itr none)) ρ s') (N:∀ W,Nx ρ W s ρ s'):ItrN C H ρ s j ci k vs none s'
theorem aFw(hr:Room r A)(S:Sim C H ρ s)(f:ρ[j]? =ao l)(D:H[j]? =ao (.itr (ao (B,k))))(hv:lst H (.ref B)=ao vs):bI C.M A (ku (.ref l.a)) (ItrN C H ρ s j B k vs) NoE s:=by
 refine rZ (S.objs j _ l D f) λg1 O li hli c=>bV (b9 S (.ref hli) hv) λad xs Z U K=>?_
 cases Z
 refine cU (id c) λo X T L=>?_
 cases g:vs[k]? with
 |some v=>
  refine xEA (K.get g) λu hu Y=>oW c U (by simpa using hu) λh' m hs=>?_
  have st:=S.put (k:=s.toks) (h':=h') (m':=.itr (ao (B,k+1))) f D g1 X (lE T L) hs (xEA m λo2 e2 _=>⟨o2,e2⟩) (by intro _ h;cases h) (by intro _ h;cases h) λim=>⟨g1,O,li,hli,m⟩
  exact .item g st.1 st.2 (Y.nx (st.2 noW))
 |none=>
  refine (by
   intro n w A E s it l i d Q P c f W R
   refine cU (id c) λo p hc z=>zH f λol I _ nl G=>?_
   delta ku
   refine zzB (jv (et c.typeIs kn
    (e7 kn c.typeIs qt ?_ (rz _))))
   show bI _ _ (vx (.ref it) 0 >>=_) _ _ s
   refine zzB (fx p z (x:=.ref l) rfl (rwL (cc (show¬((Value.ref l==Value.none)=be) from Bool.false_ne_true)) (zzB (fx p z rfl (zzB (gu I G ?_))))))
   simp only[fo,W]
   refine zzB (pY (zzB (pi p z (by simp) (zzB (zzB (g5 (zzB (ji (a:=Value.none) (by first |rfl | (rfl)) (g5 ?_ (by size_fits)))) (by size_fits)))))))
   delta raiseNew;refine zzB (rF (rwL (show A.in1.handled=none from P) (zzB (zzP (tz ?_)))))
   refine zzB (jz ⟨_,Heap.get?_push_size _ rfl,rfl⟩ pj ?_)
   have t:=Obj.data_mapFields z (·.setIfInBounds 0 Value.none)
   refine zzP (R _ _ (Heap.get?_push_of_some _ (Heap.get?_push_of_some _ (Heap.get?_update_self _ p (Obj.isFreed_of_fields t)))) ?_ (((Heap.SameBut.update ..).extBut.push _).push _))
   simp [aZ,t,((Obj.cls_mapFields o (·.setIfInBounds 0 Value.none)).trans hc)]:∀{n:nk}{w:jp}{A:eu}{E:bz->bv->Prop}{s:bv}{it l:dw}{i:Nat}{d}{Q:bn bz->bv->Prop}(P:A.handled=none)(c:s.heap.IsListIter it l i)(f:s.heap.IsList l d)(W:d[i]? =none)(R:∀ h' u,h'.get? it=ao u->¬aZ u->Heap.ExtBut it s.heap h'->Q none {s with heap:=h'}),bI (h9 n w) A (ku (.ref it)) Q E s) hr.1 c U (Array.getElem?_eq_none (by exact rwL K.sz (getElem?_eq_none_iff.mp g))) (λh' u N F y=>?_)
  have J:Imm s.heap h':=λb x e i=>by
   by_cases q:b=l.a
   ·subst q;refine cyS (X▸e) λzq=>?_;subst zq;exact ca i (lE T L)
   ·exact y b x q e
  refine .done g (S.upd f D (by intro _ h;cases h) (λb o e hb=>y b o (λq=>hb (.inl q)) e) J rfl rfl ⟨g1,O,u,N,F⟩ (by intro _ h;cases h))
   λW=>⟨cy _,λl f=>by simp at f,λb x e p _=>y b x (λq=>p (q▸⟨l,fq f,.inl rfl⟩)) e,J,λb x e=>?_⟩
  by_cases q:b=l.a
  ·exact rwL q ⟨u,N⟩
  ·exact⟨x,y b x q e⟩
structure GSh where
 fd:ty
 fa:dw
 pre:aq je
 target:Expr
 iter:Expr
 cond:Expr
 ye:Expr
 cond2:Expr
 ye2:Expr
 s1:je
 s3:je
 s2:aq je
 p1:Pos
 p2:Pos
 p3:Pos
 p4:Pos
 p5:Pos
 p6:Pos
 p7:Pos
namespace GSh
def yst(G:GSh):je:=.Expr (.Yield (ao G.ye) G.p1) G.p2
def yst2(G:GSh):je:=.Expr (.Yield (ao G.ye2) G.p3) G.p4
def lb(G:GSh):aq je:=[.If G.cond (G.s1::G.yst::G.s2) [] G.p5,G.s3]
def if2(G:GSh):je:=.If G.cond2 [G.yst2] [] G.p6
def tail(G:GSh):aq je:=[.For G.target G.iter G.lb [] G.p7,G.if2]
def body(G:GSh):aq je:=G.pre++G.tail
def envL(G:GSh)(L:dw):Env:=ie G.fd L G.fa
def Kf:ve->Sem PySem.Fin:=λf=>.pure (.done (.ret (match f with | .ret v=>v |_=>.none)))
def Hf(env:Env):bz->Sem PySem.Fin:=λe=>(leaving env e).wrap (λq=>.raise e) .raise id id
def Ka(G:GSh)(env:Env):ve->Sem PySem.Fin:=λf=>match f with | .next=>(n5 [G.if2] env).wrap Kf (Hf env) id id |f=>Kf f
def fs1(G:GSh)(env:Env)(p:Pos):aq Frame:=[.ret (λr=>((match r with | .ok f=>(.pure f:Sem ve) | .error e=>.raise e).onRaise fun(x:bz)=>do
    if (<-vx x 1)==Value.none then tB "frame.own-activation:exception-without-traceback"
    setFlight x env.frame).wrap (G.Ka env) (Hf env) id id) none aL [] (.func G.body env) p []]
def loopC(G:GSh)(env:Env)(x:bz):Code:=.forLoop G.target x G.lb [] env
def Kt(G:GSh)(env:Env)(x:bz):ve->Sem PySem.Fin:=λf=>match f with
 | .next | .cont=>.pure (.again (G.loopC env x))
 | .brk=>.pure (.done .next)
 | .ret v=>.pure (.done (.ret v))
def Ht(env:Env):bz->Sem PySem.Fin:=λe=>(do noteFrame e env;sW e:Sem tj).wrap (λq=>.raise e) .raise id id
def K1(G:GSh)(env:Env)(x:bz):ve->Sem PySem.Fin:=λf=>match f with | .next=>(n5 [G.s3] env).wrap (G.Kt env x) (Ht env) id id |f=>G.Kt env x f
def T1(G:GSh)(env:Env)(x:bz):Sem PySem.Fin:=(n5 G.s2 env).wrap (G.K1 env x) (Ht env) id id
end GSh
theorem d5{b:Type}{f:α->Sem b}{K:b->Sem PySem.Fin}{H:bz->Sem PySem.Fin}(h:bI M (A.over c fs) m (λa s'=>Sg M A c ((f a).wrap K H gd lv) fs Φ s') (λx s'=>Sg M A c (H x) fs Φ s') s):Sg M A c ((m >>=f).wrap K H gd lv) fs Φ s:=by
 rw[Sem.bind_eq_wrap',Sem.wrap_wrap]
 exact iC h
inductive mD where
 |yl (it:Nat) (lo:Lo) (v:V)
 |yr (lo:Lo) (v:V)
 |done
structure GFn where
 pre:SF
 it:EF
 tgt:AF
 fc:TF
 f1:SF
 fy:EF
 f2:SF
 f3:SF
 fc2:TF
 fy2:EF
namespace GFn
def tail(g:GFn)(lo:Lo)(H:MH)(Q:mD->MH->Prop):Prop:=g.fc2 lo H λb H2=>bif b then g.fy2 lo H2 λv H3=>Q (.yr lo v) H3 else Q .done H2
def nextK(k:Lo->MH->Prop):SK:=λfl lo H=>match fl with | .next=>k lo H |_=>fm
section
variable(g:GFn)
def loopN:Nat->Nat->Lo->MH->(mD->MH->Prop)->Prop
 |0,_,_,_,_=>fm
 |n+1,it,lo,H,Q=>Lf (H[it]?.bind MO.iv) λp=>Lf (lst H (.ref p.1)) λvs=>match vs[p.2]? with
  |some v=>g.tgt v lo (H.set it (.itr (ao (p.1,p.2+1)))) λlo1 H1=>g.fc lo1 H1 λb H2=>
    bif b then g.f1 lo1 H2 (nextK λlo2 H3=>g.fy lo2 H3 λv H4=>Q (.yl it lo2 v) H4)
    else g.f3 lo1 H2 (nextK λlo2 H3=>loopN n it lo2 H3 Q)
  |none=>g.tail lo (H.set it (.itr none)) Q
end
section
variable(g:GFn)
def loop(it:Nat)(lo:Lo)(H:MH)(Q:mD->MH->Prop):Prop:=∃ n,g.loopN n it lo H Q
end
def start(g:GFn)(lo:Lo)(H:MH)(Q:mD->MH->Prop):Prop:=g.pre lo H (nextK λlo1 H1=>g.it lo1 H1 λa H2=>Lf a.rf λci=>(∃ vs,lst H2 (.ref ci)=ao vs)/\g.loop H2.length lo1 (H2++[.itr (ao (ci,0))]) Q)
def more(g:GFn)(it:Nat)(lo:Lo)(H:MH)(Q:mD->MH->Prop):Prop:=g.f2 lo H (nextK λlo1 H1=>g.f3 lo1 H1 (nextK λlo2 H2=>g.loop it lo2 H2 Q))
end GFn
structure GV(C:Cx)(r:Nat)(G:GSh)(g:GFn)(env:Env):Prop where
 pre:SVs C r env G.pre g.pre
 it:EV C r env G.iter g.it
 tgt:AV C r env G.target g.tgt
 fc:TV C r env G.cond g.fc
 f1:SV C r env G.s1 g.f1
 fy:EV C r env G.ye g.fy
 f2:SVs C r env G.s2 g.f2
 f3:SV C r env G.s3 g.f3
 fc2:TV C r env G.cond2 g.fc2
 fy2:EV C r env G.ye2 g.fy2
 hs:∀ x,g4 G.iter env x=pure x
 co:env.scope.isCoroutine=aL
 ia:qi env=aL
inductive GΦ(C:Cx)(G:GSh)(env:Env)(ρ0:aq Lc)(s0:bv)(Q:mD->MH->Prop):End->bv->Prop
 |yl {ρ1 H1 it lo v li u l k p p' s'} (S:Sim C H1 ρ1 s') (N:Nx ρ0 (Wr env) s0 ρ1 s') (hk:k (.send .none)=G.T1 env (.ref li.a)) (hli:ρ1[it]? =ao li) (r:VR ρ1 s'.heap u v) (F:Fm C env ρ1 s' lo) (q:Q (.yl it lo v) H1):
   GΦ C G env ρ0 s0 Q (.susp u aL l k (G.loopC env (.ref li.a)) p (G.fs1 env p')) s'
 |yr {ρ1 H1 lo v u l k p s'} (S:Sim C H1 ρ1 s') (N:Nx ρ0 (Wr env) s0 ρ1 s') (hk:k (.send .none)=GSh.Kf .next) (r:VR ρ1 s'.heap u v) (F:Fm C env ρ1 s' lo) (q:Q (.yr lo v) H1):GΦ C G env ρ0 s0 Q (.susp u aL l k (.func G.body env) p []) s'
 |done {ρ1 H1 s'} (S:Sim C H1 ρ1 s') (N:Nx ρ0 (Wr env) s0 ρ1 s') (o:∃ o,s'.heap.get? env.locals=ao o/\¬aZ o) (q:Q .done H1):GΦ C G env ρ0 s0 Q (.ret (.ok (.ret .none))) s'
theorem Room.overF{b:aq je}(c:Room (r+1) A):Room r (A.over (.func b e) []):=by
 refine xAA c λh1 a d=>⟨h1,(rwL (rfl:(Code.func b e).weight=1) (A34 a):A.depth+0+(Code.func b e).weight+10*r<=700),?_⟩
 ·exact(rwL (rfl:(Code.func b e).cUnits=3) (A35 d):A.units+0+(Code.func b e).cUnits+40*r<=8000)
theorem Room.overL{G:GSh}(b:Room (r+1) A):Room r (A.over (G.loopC e x) (G.fs1 e p)):=by
 refine xAA b λh1 a c=>⟨h1,(zzM1 0x155f3da4af80f40f41f40a00000015f3d07da402bea00007 [A.depth,r] ⋯ a:A.depth+(1+0)+0+10*r<=700),?_⟩
 ·exact(zzM1 0x147ea0f69068f80f40f43f40a00000007ea0f41f69001a3ea00007 [A.units,r] ⋯ c:A.units+(3+0)+0+40*r<=8000)
theorem Fm.locals(F:Fm C env ρ s lo):∃ o,s.heap.get? env.locals=ao o/\¬aZ o:=by
 refine xEA F.ns λm a q=>?_;obtain⟨o,d,c,g,b,_⟩:=a
 exact⟨o,g,by delta aZ;exact rwL b id⟩
theorem aDy{st:je}{a:aq je}{K:ve->Sem PySem.Fin}(V:SV C r env st f)(m:Room r (A.over c fs))(S:Sim C H ρ s)(F:Fm C env ρ s lo)(e:f lo H (GFn.nextK k))(h:∀ {s1 b H1 d},Sim C H1 b s1->Nx ρ (Wr env) s b s1->Fm C env b s1 d->k d H1->Sg C.M A c ((n5 a env).wrap K g id id) fs Φ s1):Sg C.M A c ((n5 (st::a) env).wrap K g id id) fs Φ s:=cW (iC (wmN (V m S F e) λfw s1 p=>by
  obtain⟨l,n,i,j,q⟩:=p
  cases j with
  |next=>exact h l n i q
  |brk=>exact q.elim
  |cont=>exact q.elim
  |ret _=>exact q.elim))
theorem aDx{st:aq je}{K:ve->Sem PySem.Fin}(V:SVs C r env st f)(l:Room r (A.over c fs))(S:Sim C H ρ s)(F:Fm C env ρ s lo)(e:f lo H (GFn.nextK k))(h:∀ {s1 a H1 b},Sim C H1 a s1->Nx ρ (Wr env) s a s1->Fm C env a s1 b->k b H1->Sg C.M A c (K .next) fs Φ s1):Sg C.M A c ((n5 st env).wrap K d id id) fs Φ s:=iC (wmN (V l S F e) λfw s1 p=>by
  obtain⟨j,m,g,i,q⟩:=p
  cases i with
  |next=>exact h j m g q
  |brk=>exact q.elim
  |cont=>exact q.elim
  |ret _=>exact q.elim)
theorem qF(V:GV C r G g env):∀ (n:Nat){A:eu}{j s:bv}{ρ0 ρ:aq Lc}{H:MH}{lo:Lo}{Q:mD->MH->Prop},Room (r+1) A->Nx ρ0 (Wr env) j ρ s->Sim C H ρ s->Fm C env ρ s lo->ρ[it]? =ao i-> g.loopN n it lo H Q->Sg C.M A (G.loopC env (.ref i.a)) (C.M.den (G.loopC env (.ref i.a))) (G.fs1 env p) (GΦ C G env ρ0 j Q) s:=λn=>by
 induction n with
 |zero=>
  intro _ _ _ _ _ _ _ _ _ _ _ _ _ e
  exact e.elim
 |succ n T=>
  intro A j s ρ0 ρ H lo Q c N S F h e
  show Sg C.M A _ ((forTurn G.target (.ref i.a) G.lb [] env).onRaise (λx=>do noteFrame x env;sW x)) _ _ s
  rw[Sem.onRaise_eq_wrap]
  have R:(λe=>(do noteFrame e env;sW e:Sem tj).bind λ_=>(.raise e:Sem PySem.Fin))=GSh.Ht env:=by
   funext e
   exact Sem.bind_eq_wrap _ _
  rw[R]
  delta forTurn
  refine d5 (fh (e.elim λck L e=>e.elim λvs X e=>d5 (ni (wmN (aFw c.overL S h (iv_mo L) X) λo s1 W=>?_))))
  cases W with
  |item o m d P=>
   rw[o]at e
   obtain⟨_,_,lc,_,oi,D,E,_⟩:=m.objs it _ i (by rw[ef (List.getElem?_eq_some_iff.mp (iv_mo L)).1]) h
   show Sg C.M A _ ((sU G.target (.ref i.a) _ >>=λ_=>(ul G.target env _ >>=λ_=>(n5 G.lb env >>=λf=>match f with
    | .next | .cont=>again (.forLoop G.target (.ref i.a) G.lb [] env)
    | .brk=>pure (.done .next)
    | .ret v=>pure (.done (.ret v))))).wrap .pure (GSh.Ht env) id id) _ _ s1
   refine d5 (kI D E (by decide) (d5 (eU.run (α:=tj) (V.tgt c.overL m (F.nx (d _)) P e) λ{_ s2 _ _ _} S2 w K e=>?_)))
   rw[Sem.bind_eq_wrap',Sem.wrap_wrap]
   refine(cu (λt=>Sg C.M A (G.loopC env (.ref i.a)) t (G.fs1 env p) (GΦ C G env ρ0 j Q) s2) (Sem.wrap_congr (K':=G.Kt env (.ref i.a)) (H':=GSh.Ht env) (n5 G.lb env) _ _ (λf=>by cases f<;>rfl) (λ_=>rfl))).mpr ?_
   have y:=(N.trans (d _)).trans w
   refine cW (sg_If (TV.run V.fc c.overL S2 K e λ{b s3 _ _} O u e=>?_))
   cases b with
   |true=>
    rw[cj rfl]
    exact aDy V.f1 c.overL O (K.nx u) e λS4 z B e=>cW (kT rfl rfl (EV.run V.fy c.overL S4 B e λS5 I U q l k Z J=>
     .yl S5 (((y.trans u.wr).trans z).trans I.wr) J (aT I.pre (aT z.pre (aT u.pre (aT w.pre h)))) U (B.nx I) q) V.co V.ia)
   |false=>
    exact rwL (cc (by decide)) (aDy V.f3 c.overL O (K.nx u) e λS4 z B e=>pH rfl (T c ((y.trans u.wr).trans z) S4 B (aT z.pre (aT u.pre (aT w.pre h))) e))
  |done o m d=>
   rw[o]at e
   exact pH rfl (aIn (.ok .next) ((by
    exact λ{G g} V {A j s ρ0 ρ H lo Q} c N S F e=>cW (sg_If (TV.run V.fc2 c.overF S F e λ{b s1 _ _} m d e=>by
       cases b with
       |true=>
        exact rwL (cj rfl) (cW (kT rfl rfl (EV.run V.fy2 c.overF m (F.nx d) e λS2 w Y q l k p J=>.yr S2 ((N.trans d.wr).trans w.wr) J Y ((F.nx d).nx w) q) V.co V.ia))
       |false=>
        exact rwL (cc (by decide)) (aD0 (.ok (.ret .none)) (.done m (N.trans d.wr) (F.nx d).locals e)))):∀{G:GSh}{g:GFn}(V:GV C r G g env){A:eu}{j s:bv}{ρ0 ρ:aq Lc}{H:MH}{lo:Lo}{Q:mD->MH->Prop}(c:Room (r+1) A)(N:Nx ρ0 (Wr env) j ρ s)(S:Sim C H ρ s)(F:Fm C env ρ s lo)(e:g.tail lo H Q),Sg C.M A (.func G.body env) ((n5 [G.if2] env).wrap GSh.Kf (GSh.Hf env) id id) [] (GΦ C G env ρ0 j Q) s) V c (N.trans (d _)) m (F.nx (d _)) e))
theorem aGc(V:GV C r G g env){b:Lc}(c:Room (r+1) A)(N:Nx ρ0 (Wr env) h ρ s)(S:Sim C H ρ s)(F:Fm C env ρ s lo)(d:ρ[it]? =ao b)(e:g.more it lo H Q):Sg C.M A (G.loopC env (.ref b.a)) (G.T1 env (.ref b.a)) (G.fs1 env p) (GΦ C G env ρ0 h Q) s:=aDx V.f2 c.overL S F e λS1 i j e=>aDy V.f3 c.overL S1 j e λS2 f k e=>by
  exact xE e λn e=>pH rfl (qF V n c ((N.trans i).trans f) S2 k (aT f.pre (aT i.pre d)) e)
theorem aCp(V:GV C r G g env)(d:Room (r+1) A)(N:Nx ρ0 (Wr env) i ρ s)(S:Sim C H ρ s)(F:Fm C env ρ s lo)(e:g.start lo H Q):Sg C.M A (.func G.body env) (C.M.den (.func G.body env)) [] (GΦ C G env ρ0 i Q) s:=by
 refine aDz ?_
 rw[Sem.onRaise_eq_wrap,Sem.bind_eq_wrap',Sem.wrap_wrap]
 rw[Sem.wrap_congr (n5 G.body env) _ _ (K':=GSh.Kf) (H':=GSh.Hf env) (λf=>by cases f<;>rfl) (λe=>by rw[Sem.bind_eq_wrap,Sem.wrap_wrap];rfl)]
 show Sg C.M A _ ((n5 (G.pre++G.tail) env).wrap GSh.Kf (GSh.Hf env) id id) [] _ s
 rw[(by
  exact λ{K H}=>λn=>by
    induction n with
    |nil=>
     exact λb=>rfl
    |cons st a v=>
     intro b
     rw[tD,sV,sV]
     refine Sem.wrap_congr _ _ _ (λf=>?_) (λI=>rfl)
     cases f with
     |next=>exact v b
     |_=>rfl:∀{K:ve->Sem PySem.Fin}{H:bz->Sem PySem.Fin},∀ (a b:aq je),(n5 (a++b) env).wrap K H id id=(n5 a env).wrap (λf=>match f with | .next=>(n5 b env).wrap K H id id |f=>K f) H id id)]
 refine aDx V.pre d.overF S F e λ{s1 I I I} w y h e=>cW ?_
 rw[exec_For]
 refine d5 (fh (d5 (EV.run V.it d.overF w h e λ{x s2 c E D} S2 l q e=>e.elim λci p e=>(xAE e λz96 n e=>?_))));obtain⟨vs,o⟩:=z96
 refine cU (q.toRef p) λlc I u k=>rwL u (bV (b9 S2 (.ref k) o) λad B m t z=>?_)
 cases m
 refine d5 (ji (V.hs _) (d5 (fh (d5 (cb (oz t ?_))))))
 have j:Nx c noW s2 _ _:=.alloc {cls:=.type "list_iterator",data:=.fields #[.ref lc.a,.int 0 0]}
 exact aIo λp=>qF V n d (((N.trans y).trans l.wr).trans j.wr) (S2.alloc {cls:=.type "list_iterator",data:=.fields #[.ref lc.a,.int 0 0]} (.itr (ao (ci,0))) ⟨rfl,rfl,lc,aT (jr _ _) k,_,Heap.get?_push_size _ rfl,rfl,rfl⟩) ((h.nx l).nx j) S2.last e
def gQ(G:GSh)(ρ:aq Lc)(s:bv)(L:dw)(lo:Lo):Prop:=∃ m,s.heap.Ns L m/\∀ x,(G.envL L).kindOf x=ao .local->OV ρ s.heap (m x) (lo x)
def fQ(G:GSh)(ρ:aq Lc)(s:bv)(l:Lc)(gn:Gn):Prop:=∃ g nm qn,l.g=ao g/\s.heap.get? l.a=ao {cls:=.type "generator",data:=.fields #[.int (g:Nat) 0,nm,qn]}/\(match gn with
  | .fresh lo=>l.d≠l.a/\gQ G ρ s l.d lo/\s.gens[g]? =ao (.fresh (.func G.body (G.envL l.d)))
  | .loop it lo=>l.d≠l.a/\gQ G ρ s l.d lo/\∃ li k l' p p',ρ[it]? =ao li/\k (.send .none)=G.T1 (G.envL l.d) (.ref li.a)/\s.gens[g]? =ao (.suspended k l' (G.loopC (G.envL l.d) (.ref li.a)) p (G.fs1 (G.envL l.d) p') aL)
  | .last lo=>l.d≠l.a/\gQ G ρ s l.d lo/\∃ k l' p,k (.send .none)=GSh.Kf .next/\s.gens[g]? =ao (.suspended k l' (.func G.body (G.envL l.d)) p [] aL)
  | .run=>l.d=l.a/\s.gens[g]? =ao .running
  | .fin=>l.d≠l.a/\(∃ o,s.heap.get? l.d=ao o/\¬aZ o)/\s.gens[g]? =ao .finished)
theorem gQ.mono{a:aq Lc}(h:gQ G ρ s L lo)(e:ρ<+:a)(i:Imm s.heap s'.heap)(g:∀ o,s.heap.get? L=ao o->s'.heap.get? L=ao o):gQ G a s' L lo:=by
 refine xEA h λm b k=>?_;obtain⟨o,j,c,d,q⟩:=b
 exact⟨m,⟨o,j,c,g _ d,q⟩,λx f=>(k x f).mono e i⟩
theorem fQ.mono(e:ρ<+:j)(i:Imm s.heap s'.heap)(t:∀ o,s.heap.get? l.a=ao o->s'.heap.get? l.a=ao o)(n:∀ o,s.heap.get? l.d=ao o->s'.heap.get? l.d=ao o)(m:∀ k x,l.g=ao k->s.gens[k]? =ao x->s'.gens[k]? =ao x)(h:fQ G ρ s l gn):fQ G j s' l gn:=by
 refine dQ h λg nm u f w c=>⟨g,nm,u,f,t _ w,?_⟩
 cases gn with
 |fresh lo=>exact⟨c.1,c.2.1.mono e i n,m _ _ f c.2.2⟩
 |loop it lo=>exact iA c λa b r k l' p v x y z=>⟨a,b.mono e i n,r,k,l',p,v,aT e x,y,m _ _ f z⟩
 |last lo=>exact sS c λa b k l' p y z=>⟨a,b.mono e i n,k,l',p,y,m _ _ f z⟩
 |run=>exact⟨c.1,m _ _ f c.2⟩
 |fin=>refine xAA c λa q z=>xEA q λo x y=>?_;exact⟨a,⟨o,n _ x,y⟩,m _ _ f z⟩
theorem fQ.here(h:fQ G ρ s l gn):∃ o b,s.heap.get? l.a=ao o/\s.heap.get? l.d=ao b/\¬aZ o/\¬aZ b:=by
 refine dQ h λg nm k r f c=>?_
 have e: ¬aZ ({cls:=.type "generator",data:=.fields #[.int (g:Nat) 0,nm,k]}:Obj):=by simp [aZ]
 have j:∀ lo,gQ G ρ s l.d lo->∃ o b,s.heap.get? l.a=ao o/\s.heap.get? l.d=ao b/\¬aZ o/\¬aZ b:=by
  rintro lo ⟨m,⟨o,t,q,p,n,_⟩,_⟩
  exact⟨_,o,f,p,e,by simp [aZ,n]⟩
 cases gn with
 |fresh lo=>exact j lo c.2.1
 |loop it lo=>exact j lo c.2.1
 |last lo=>exact j lo c.2.1
 |run=>exact rwL c.1 ⟨_,_,f,f,e,e⟩
 |fin=>refine xAA c λu i u=>xEA i λo x y=>?_;exact⟨_,o,f,x,e,y⟩
def mkCx(prog:nk)(w:jp)(base:bv)(lim:base.heap.NoLimit)(G:GSh):Cx:=⟨prog,w,base,lim,fQ G,fQ.mono,fQ.here⟩
structure GCx(C:Cx)(G:GSh):Prop where
 gr:∀ ρ s l gn,C.GR ρ s l gn=fQ G ρ s l gn
 loc:∀ L x,(G.envL L).kindOf x≠ao .cell/\(G.envL L).kindOf x≠ao .free
 cells:∀ L,(G.envL L).cells= []
 kind:G.fd.scope.kind= .function
 gl:G.fd.globals=fu
 bi:G.fd.builtins=jN
def kC(ρ ρ':aq Lc):Prop:=∀ (n:Nat) (l:Lc),ρ[n]? =ao l->∃ l',ρ'[n]? =ao l'/\l'.a=l.a
theorem VR.sameA(e:kC ρ c)(r:VR ρ h u v):VR c h u v:=by
 refine VR.rec (motive_2:=λus vs q=>VRs c h us vs) .none .bool .int .str ?_ ?_ ?_ ?_ ?_ ?_ .raw .nil ?_ r
 ·intro a k n vs g _ j;exact .tup g j
 ·intro a n x y z t u v m g;exact .mat g
 ·intro n l g;exact xEA (e n l g) λl' d f=>rwR f (.ref d)
 ·intro a n l g i;exact xEA (e n l g) λl' d f=>.dget d (rwL f i)
 ·intro a n l g i;exact xEA (e n l g) λl' d f=>.scon d (rwL f i)
 ·intro a x y z t u v g;exact .rng g
 ·intro u us v vs _ _ a b;exact .cons a b
theorem VRs.sameA(e:kC ρ c)(r:VRs ρ h d vs):VRs c h d vs:=r.ind .nil λa q b=>.cons (a.sameA e) b
theorem OV.sameA{a:aq Lc}(e:kC ρ a):∀ {u:bn bz}{v:bn V},OV ρ h u v->OV a h u v
 |none,none,_=>trivial
 |some _,ao _,x=>VR.sameA e x
 |none,ao _,x=>False.elim x
 |some _,none,x=>False.elim x
theorem OR.sameA(D:GCx C G)(e:kC ρ h)(r:OR C ρ s l m):OR C h s l m:=by
 cases m with
 |list vs=>exact k7 r λa g j n x y=>⟨a,g,j,n,x,y.sameA e⟩
 |ro vs=>exact rZ r λa g j x y=>⟨a,g,j,x,y.sameA e⟩
 |dict n f=>exact xG r λa g v q x y=>⟨a,g,v,q,x,λk=>(y k).sameA e⟩
 |eset=>exact r
 |inst O=>exact pC r λg M o m a b c d=>⟨g,M,o,m,a,b,c,λk=>(d k).sameA e⟩
 |gen u=>
  have E:C.GR ρ s l u:=r
  rw[D.gr]at E
  show C.GR h s l u
  rw[D.gr]
  refine dQ E λg nm I H K i=>⟨g,nm,I,H,K,?_⟩
  have B:∀ {lo},gQ G ρ s l.d lo->gQ G h s l.d lo:=λw=>xEA w λm N i=>⟨m,N,λx L=>(i x L).sameA e⟩
  cases u with
  |fresh lo=>exact⟨i.1,B i.2.1,i.2.2⟩
  |loop it lo=>refine iA i λa b F k l' p J x y z=>xEA (e _ _ x) λli' t A=>?_;rw[<-A]at y z;exact⟨a,B b,li',k,l',p,J,t,y,z⟩
  |last lo=>exact xAA i λa b c=>⟨a,B b,c⟩
  |run=>exact i
  |fin=>exact i
 |itr p=>cases p with
  |none=>exact r
  |some p=>exact rZ r λa g F x y=>xEA (e _ _ x) λli' t A=>⟨a,g,li',t,(rwL A y)⟩
theorem gN{s:bv}(e:s.gens[g]? =ao y):(s.setGen g x).gens[g]? =ao x:=by
 have:g<s.gens.size:=by
  refine Or.elim (q0 g s.gens.size) (λq=>q) λq=>?_
  ·cases ((Array.getElem?_eq_none q)▸e)
 show(s.gens.setIfInBounds g x)[g]? =ao x
 simp [Array.getElem?_setIfInBounds,this]
theorem mI(c:ρ[gi]? =ao l)(d:l'.a=l.a):kC ρ (ρ.set gi l'):=by
 intro n x b
 by_cases q:n=gi
 ·subst q
  rw[c]at b;refine cxS b ?_
  exact⟨l',by rw[ef ((List.getElem?_eq_some_iff.mp c).1)],d⟩
 ·exact⟨x,by exact rwL (ez (Ne.symm q)) b,rfl⟩
theorem Sim.swapG(R:GCx C G)(S:Sim C H ρ s)(v:ρ[gi]? =ao l)(Y:H[gi]? =ao (.gen gn))(M:l'.a=l.a)(T:l'.g=l.g)(P:l.g=ao g)(L:J.bare=be)(U:l'.d=l.a\/l'.d=l.d\/(¬Own ρ l'.d/\C.base.heap.get? l'.d=none))(E:fQ G (ρ.set gi l') (s.setGen g J) l' gn'):Sim C (H.set gi (.gen gn')) (ρ.set gi l') (s.setGen g J):=by
 have D:gi<H.length:=by exact rwR S.len ((List.getElem?_eq_some_iff.mp v).1)
 have other:∀ {i:Nat}{x:Lc},(ρ.set gi l')[i]? =ao x->(i=gi/\x=l')\/(i≠gi/\ρ[i]? =ao x):=by
  intro i x h
  by_cases q:i=gi
  ·subst q;rw[ef ((List.getElem?_eq_some_iff.mp v).1)]at h;exact cxS h (.inl ⟨rfl,rfl⟩)
  ·exact .inr ⟨q,(rwR (ez (Ne.symm q)) h)⟩
 have c:C.base.heap.get? l.a=none/\C.base.heap.get? l.d=none:=by
  rcases S.ro gi l v with ⟨vs,e⟩ |e
  ·cases (Y▸e)
  ·exact e
 have u:∀ {i:Nat}{x:Lc},i≠gi->ρ[i]? =ao x->∀ b,l'.has b->¬x.has b:=by
  intro i x q p b L r
  have w:=S.disj gi i l x v p (Ne.symm q)
  rcases L with rfl |rfl
  ·exact w _ (.inl rfl) (rwR M r)
  ·rcases U with e |e |⟨e,_⟩
   ·exact w _ (.inl rfl) (rwR e r)
   ·exact w _ (.inr rfl) (rwR e r)
   ·exact e ⟨x,fq p,r⟩
 refine⟨by simp [S.len],S.keep,λi m x Q p=>?_,λi x p=>?_,λi j I K F O f b A B=>?_,λi j I K k F O f A B=>?_,S.os,(by
  intro s g x h p
  intro y W
  have N:y∈s.gens.setIfInBounds g x:=W
  obtain⟨i,F,rfl⟩:=Array.mem_iff_getElem.mp N
  rw[Array.getElem_setIfInBounds (by simpa using F)]
  split
  ·exact p
  ·exact h _ (Array.getElem_mem _):∀{s:bv}{g:Nat}{x:ow}(h:qc s.gens)(p:x.bare=be),qc (s.setGen g x).gens) S.bare L⟩
 ·rcases other p with ⟨rfl,rfl⟩ |⟨q,t⟩
  ·rw[ef D]at Q;refine cxS Q ?_
   show C.GR _ _ _ _
   rw[R.gr];exact E
  ·exact OR.sameA R (mI v M) ((S.objs i m x (rwR (ez (Ne.symm q)) Q) t).mono (s:=s) (s':=s.setGen g J) (cy _) (.refl _) (λZ e=>e) (λZ e=>e) (λk y X e=>(by
    exact rwL (Array.getElem?_setIfInBounds_ne (Ne.symm (λz=>S.disjG i gi x l k t v q X (by rw[P,z])))) e)))
 ·rcases other p with ⟨rfl,rfl⟩ |⟨q,t⟩
  ·right
   refine⟨by exact rwL M c.1,?_⟩
   rcases U with e |e |⟨_,e⟩
   ·exact rwL e c.1
   ·exact rwL e c.2
   ·exact e
  ·exact rwL (ez (Ne.symm q)) (S.ro i x t)
 ·rcases other F with ⟨rfl,rfl⟩ |⟨q,o⟩<;>rcases other O with ⟨rfl,rfl⟩ |⟨V,n⟩
  ·exact f rfl
  ·exact u V n b A B
  ·exact u q o b B A
  ·exact S.disj i j I K o n f b A B
 ·rcases other F with ⟨rfl,rfl⟩ |⟨q,o⟩<;>rcases other O with ⟨rfl,rfl⟩ |⟨V,n⟩
  ·exact f rfl
  ·exact S.disjG i j l K k v n f (T▸A) B
  ·exact S.disjG i j I l k o v f A (T▸B)
  ·exact S.disjG i j I K k o n f A B
def MO.gn:MO->bn Gn | .gen g=>ao g |_=>none
theorem aGb(e:m.bind MO.gn=ao g):m=ao (.gen g):=by
 refine xEA (bt.mp e) λm a b=>rwL a ?_
 cases m with
 |gen g=>refine cxS b ?_;rfl
 |_=>cases b
def GFn.finK(gi:Nat)(Q:bn V->MH->Prop):mD->MH->Prop:=λo H1=>H1[gi]? =ao (.gen .run)/\match o with
 | .yl it lo v=>Q (ao v) (H1.set gi (.gen (.loop it lo)))
 | .yr lo v=>Q (ao v) (H1.set gi (.gen (.last lo)))
 | .done=>Q none (H1.set gi (.gen .fin))
def GFn.nxG(g:GFn)(gi:Nat)(H:MH)(Q:bn V->MH->Prop):Gn->Prop
 | .fresh lo=>g.start lo (H.set gi (.gen .run)) (GFn.finK gi Q)
 | .loop it lo=>g.more it lo (H.set gi (.gen .run)) (GFn.finK gi Q)
 | .last lo=>Q none (H.set gi (.gen .fin))
 | .fin=>Q none H
 | .run=>fm
def GFn.nx(g:GFn)(gi:Nat)(H:MH)(Q:bn V->MH->Prop):Prop:=Lf (H[gi]?.bind MO.gn) λgn=>g.nxG gi H Q gn
theorem zQ{R:α->bv->Prop}(d:A.handled=none)(f:∀ x h',(∃ o,h'.get? x=ao o/\o.cls= .type "StopIteration")->(∀ b o,s.heap.get? b=ao o->h'.get? b=ao o)->E (.ref x) {s with heap:=h'}):
  bI (h9 prog w) A (newExc (.type "StopIteration") [] >>=λx=>(raiseNew x:Sem c) >>=e) R E s:=by
 refine zzB (zzB (g5 (zzB (ji (a:=Value.none) (by first |rfl | (rfl)) (g5 (zzB ?_) (by size_fits)))) (by size_fits)))
 delta raiseNew;exact zzB (rF (rwL d (zzB (zzP (tz (f _ _ ⟨_,Heap.get?_push_size _ rfl,rfl⟩ (λb o g=>Heap.get?_push_of_some _ (Heap.get?_push_of_some _ g))))))))
theorem Sim.extS(S:Sim C H ρ s)(a:∀ b o,s.heap.get? b=ao o->h'.get? b=ao o):Sim C H ρ {s with heap:=h'}:=S.ext a
structure GAt(C:Cx)(G:GSh)(H:MH)(ρ:aq Lc)(s:bv)(gi gk:Nat)(l:Lc):Prop where
 S:Sim C H ρ s
 hl:ρ[gi]? =ao l
 hH:∃ gn,H[gi]? =ao (.gen gn)
 hg:l.g=ao gk
 ho:∃ nm qn,s.heap.get? l.a=ao {cls:=.type "generator",data:=.fields #[.int (gk:Nat) 0,nm,qn]}
 base:C.base.heap.get? l.a=none/\C.base.heap.get? l.d=none
 ne:l.d≠l.a
 hL:∃ oL,s.heap.get? l.d=ao oL
noncomputable abbrev lrun(l:Lc):Lc:= {l with d:=l.a}
theorem GAt.run(h:GCx C G){b:Nat}(a:GAt C G H ρ s gi b l)(c:s.gens[b]? =ao k):Sim C (H.set gi (.gen .run)) (ρ.set gi (lrun l)) (s.setGen b .running)/\¬Own (ρ.set gi (lrun l)) l.d/\kC ρ (ρ.set gi (lrun l)):=by
 refine xEE a.ho λnm n g=>xE a.hH λgn m=>⟨a.S.swapG h (l':=lrun l) a.hl m rfl rfl a.hg rfl (.inl rfl) ⟨b,nm,n,a.hg,g,rfl,gN c⟩,?_,mI a.hl rfl⟩
 rintro ⟨x,j,f⟩
 refine xE (nq j) λi e=>?_
 by_cases q:i=gi
 ·subst q
  refine cyS ((ef ((List.getElem?_eq_some_iff.mp a.hl).1))▸e) λzq=>?_;subst zq
  refine Or.elim f (λz=>?_) λz=>?_<;>exact a.ne z
 ·exact a.S.disj gi i l x a.hl (rwR (ez (Ne.symm q)) e) (Ne.symm q) _ (.inr rfl) f
theorem GAt.back(z:GCx C G)(a:GAt C G H ρ s gi j l)(r: ¬Own (ρ.set gi (lrun l)) l.d)(N:Nx (ρ.set gi (lrun l)) (Wr (G.envL l.d)) (s.setGen j .running) c s1)(K:Sim C H1 c s1)(p:H1[gi]? =ao (.gen .run))(n:w.bare=be)(u:∀ nm L,s1.heap.get? l.a=ao {cls:=.type "generator",data:=.fields #[.int (j:Nat) 0,nm,L]}->kC c (c.set gi l)->(∃ y,s1.gens[j]? =ao y)->fQ G (c.set gi l) (s1.setGen j w) l gn'):
  Sim C (H1.set gi (.gen gn')) (c.set gi l) (s1.setGen j w)/\Nx ρ noW s (c.set gi l) (s1.setGen j w)/\kC c (c.set gi l):=by
 have k:=(List.getElem?_eq_some_iff.mp a.hl).1
 have g:=aT N.pre (by rw[ef k])
 have M:fQ G c s1 (lrun l) .run:=by rw[<-z.gr];exact (K.objs gi _ _ p g)
 refine cN M λgk' D A E f O v=>?_
 obtain rfl:gk'=j:=Option.some.inj (E.symm.trans a.hg)
 refine xE a.hL λoL B=>⟨K.swapG z g p rfl rfl a.hg n (.inr (.inr ⟨N.own B r,a.base.2⟩)) (u D A f (mI g rfl) ⟨_,v⟩),xE N.pre λt I=>?_,(mI g rfl)⟩
 have h:c.set gi l=ρ++t:=by
  rw[<-I,List.set_append_left _ _ (by simpa using k),qw]
  refine xE (List.getElem?_eq_some_iff.mp a.hl) λhh e=>?_
  rw[<-e,List.set_getElem_self]
 refine⟨⟨t,h.symm⟩,λx m=>?_,λb o e f O=>?_,N.imm,λb o e=>N.al b o e⟩
 ·rw[h,qy]at m
  exact N.new x (rwR I (rwL qy m))
 ·refine N.kp b o e ?_ ?_
  ·rintro ⟨x,m,F⟩
   refine xE (nq m) λi J=>?_
   by_cases q:i=gi
   ·subst q
    refine cyS ((ef k)▸J) λzq=>?_;subst zq
    exact f ⟨l,fq a.hl,F.elim .inl .inl⟩
   ·exact f ⟨x,fq (rwR (ez (Ne.symm q)) J),F⟩
  ·rintro (rfl |⟨x,m⟩)
   ·exact f ⟨l,fq a.hl,.inr rfl⟩
   ·rw[z.cells]at m;cases m
inductive nY(C:Cx)(gi:Nat)(ρ:aq Lc)(s:bv)(Q:bn V->MH->Prop):bn bz->bv->Prop
 |item {u v ρ' s' H'} (S:Sim C H' ρ' s') (N:Nx ρ noW s ρ' s') (r:VR ρ' s'.heap u v) (hg:∃ gn,H'[gi]? =ao (.gen gn)) (q:Q (ao v) H'):nY C gi ρ s Q (ao u) s'
 |done {ρ' s' H'} (S:Sim C H' ρ' s') (N:Nx ρ noW s ρ' s') (q:Q none H'):nY C gi ρ s Q none s'
theorem nY.ext(h:nY C gi ρ s Q none s1)(a:∀ b o,s1.heap.get? b=ao o->h'.get? b=ao o):nY C gi ρ s Q none {s1 with heap:=h'}:=by
 cases h with
 |done S N q=>exact .done (S.extS a) (N.trans (.ext a)) q
structure Wk(C:Cx)(A:eu)(P:bn bz->bv->Prop)(Q:PySem.Fin->bv->Prop)(E:bz->bv->Prop)(kk:GenResult->Sem PySem.Fin):Prop where
 y:∀ v,kk (.yielded v)=ret v
 r:∃ k':PUnit->Sem PySem.Fin,kk (.returned .none)=(newExc (.type "StopIteration") [] >>=λx=>(raiseNew x:Sem PUnit) >>=k')
 h1:∀ u s',P (ao u) s'->Q (.done (.ret u)) s'
 h2:∀ x h' s1,P none s1->(∃ o,h'.get? x=ao o/\o.cls= .type "StopIteration")->(∀ b o,s1.heap.get? b=ao o->h'.get? b=ao o)->E (.ref x) {s1 with heap:=h'}
set_option tactic.hygienic true in
theorem GAt.main(w:GCx C G){S:bn V->MH->Prop}(Z:A.handled=none)(a:GAt C G H ρ s gi e l)(b: ¬Own (ρ.set gi (lrun l)) l.d)(z:s.gens[e]? =ao P)(J:aHz C.M A (GΦ C G (G.envL l.d) (ρ.set gi (lrun l)) (s.setGen e .running) (GFn.finK gi S)) (.send .none) (s.setGen e .running) P)(W:Wk C A (nY C gi ρ s S) Q E n):bI C.M A (.resume e (.send .none) [] n) Q E s:=by
 have i:∀ {f:aq Lc}{s1:bv}{lo:Lo}{I:ow},kC f (f.set gi l)->Fm C (G.envL l.d) f s1 lo->gQ G (f.set gi l) (s1.setGen e I) l.d lo:=λsa F=>
  xEA F.ns (λm hn hm=>⟨m,hn,λx K=>(hm x K).sameA sa⟩)
 refine xH z J λe s1 O=>?_
 cases O with
 |yl o t j N D L q=>
  refine⟨rfl,?_⟩
  rename_i T u l' k p Y
  have B:=a.back w b (gn':=.loop _ _) t o q.1 rfl (λnm h c sa ⟨y,g⟩=>by
   exact xEA (sa _ T N) λli' X R=>⟨e,nm,h,a.hg,c,a.ne,i sa L,li',k,l',p,Y,X,by exact rwL R j,by exact rwL R (gN g)⟩)
  show bI C.M A (n (.yielded u)) Q E _
  rw[W.y]
  exact zzP (W.h1 u _ (.item B.1 B.2.1 (D.sameA B.2.2) ⟨_,ef (List.getElem?_eq_some_iff.mp q.1).1⟩ q.2))
 |yr o t j D L q=>
  refine⟨rfl,?_⟩
  rename_i u l' k p
  have B:=a.back w b (gn':=.last _) t o q.1 rfl (λnm h c sa ⟨y,g⟩=>⟨e,nm,h,a.hg,c,a.ne,i sa L,k,l',p,j,gN g⟩)
  show bI C.M A (n (.yielded u)) Q E _
  rw[W.y]
  exact zzP (W.h1 u _ (.item B.1 B.2.1 (D.sameA B.2.2) ⟨_,ef (List.getElem?_eq_some_iff.mp q.1).1⟩ q.2))
 |done o t U q=>
  refine⟨rfl,?_⟩
  have B:=a.back w b (gn':=.fin) t o q.1 rfl (λnm h c sa ⟨y,g⟩=>⟨e,nm,h,a.hg,c,a.ne,U,gN g⟩)
  exact(xE W.r λk' v=>rwL v (zQ Z λx h' K j=>W.h2 x h' _ (.done B.1 B.2.1 q.2) K j):bI C.M A (n (.returned .none)) Q E (s1.setGen e .finished))
theorem wG{a:dw}(b:s.heap.IsGen a f)(g:s.gens[f]? =ao i)(h:bI C.M A.in1 (Builtin.Generator.genWake (.ref a) (.send .none)) (λfin s'=>∃ u,fin= .done (.ret u)/\Q (ao u) s') (λe s'=>∃ x,e= .ref x/\(∃ o,s'.heap.get? x=ao o/\o.cls= .type "StopIteration")/\Q none s') s):bI C.M A (ku (.ref a)) Q NoE s:=by
 delta ku
 refine zzB (jv (et b.typeIs slot_gen_next
  (e7 slot_gen_next b.typeIs entry_gen_next (fg h (λfin s' h=>?_) λe s' h=>?_) (args_gen_next _))))
 ·obtain⟨u,rfl,h⟩:=h
  exact⟨u,rfl,zzP h⟩
 ·obtain⟨x,rfl,⟨o,d,c⟩,h⟩:=h
  exact zzB (jz ⟨o,d,c⟩ pj (zzP h))
theorem GAt.wake(n:GCx C G)(j:Room (r+2) A)(a:GAt C G H ρ s gi f l)(e: ¬Own (ρ.set gi (lrun l)) l.d)(b:s.gens[f]? =ao h)(c:aHz C.M A.in1 (GΦ C G (G.envL l.d) (ρ.set gi (lrun l)) (s.setGen f .running) (GFn.finK gi m)) (.send .none) (s.setGen f .running) h):bI C.M A (ku (.ref l.a)) (nY C gi ρ s m) NoE s:=by
 refine xEE a.ho λnm k i=>wG ⟨_,nm,k,i,rfl,rfl,rfl⟩ b (zzB (cb (wpAny_genNumber ⟨_,nm,k,i,rfl,rfl,rfl⟩ (zzB (wpAny_genState b ?_)))))
 cases h with
 |running=>exact c.elim
 |finished=>exact c.elim
 |_=>
  exact zzB (wpAny_roomToWake (C.lim.keeps a.S.keep) j.lt (GAt.main n (show A.in1.handled=none from j.1) a e b c ⟨λq=>rfl,⟨_,rfl⟩,λu s' g=>⟨u,rfl,g⟩,λx h' s1 g o p=>⟨x,rfl,o,g.ext p⟩⟩))
theorem Room.in1(a:Room (r+2) A):Room (r+1) A.in1:=⟨a.1,by exact(zzM1 0x155f3d07da402bea00015f3d0bda402bea00007 [A.depth,r] ⋯ a.2.1:A.depth+10*(r+1)<=700),by exact(zzM1 0x51fa83d07da40068f81f68000007ea0f42f69001a3ea00007 [A.units,r] ⋯ a.2.2:A.units+1+40*(r+1)<=8000)⟩
theorem aGe(n:GCx C G)(T:∀ L,GV C r G g (G.envL L))(D:Room (r+2) A)(S:Sim C H ρ s)(J:ρ[gi]? =ao l)(e:g.nx gi H Q):bI C.M A (ku (.ref l.a)) (nY C gi ρ s Q) NoE s:=by
 refine e.elim λgn w e=>?_
 have w:=aGb w
 have o:fQ G ρ s l gn:=by rw[<-n.gr];exact (S.objs gi _ l w J)
 refine dQ o λgk nm N X v t=>?_
 have q:C.base.heap.get? l.a=none/\C.base.heap.get? l.d=none:=by
  rcases S.ro gi l J with ⟨vs,e⟩ |e
  ·cases (w▸e)
  ·exact e
 have B:∀ {lo},l.d≠l.a->gQ G ρ s l.d lo->GAt C G H ρ s gi gk l:=λhne i=>⟨S,J,⟨_,w⟩,X,⟨nm,N,v⟩,q,hne,let ⟨m,⟨o,_,_,g,_⟩,_⟩:=i;⟨o,g⟩⟩
 have R:∀ {lo},kC ρ (ρ.set gi (lrun l))->gQ G ρ s l.d lo->¬Own (ρ.set gi (lrun l)) l.d->Fm C (G.envL l.d) (ρ.set gi (lrun l)) (s.setGen gk .running) lo:=λsa i f=>
  (by
   intro G n ρ s L lo h v U
   refine xEA h λm F t=>?_
   have I:∀ x c,(G.envL L).cells.lookup x=ao c->fm:=λx c e=>by rw[n.cells]at e;cases e
   refine⟨n.kind,n.gl,n.bi,⟨m,F,t⟩,λx hx=>?_,λb u=>?_,λx c e=>(I x c e).elim,λx y c e=>(I x c e).elim,λb u=>?_⟩
   ·refine Or.elim hx (λhx=>(ca hx (n.loc L x).1)) λhx=>?_
    ·exact ca hx (n.loc L x).2
   ·rcases u with rfl |⟨x,e⟩
    ·exact⟨v,U⟩
    ·exact(I x b e).elim
   ·rcases u with rfl |⟨x,e⟩
    ·exact iZ F λo _ _ g _=>⟨o,g⟩
    ·exact(I x b e).elim:∀{G:GSh}(n:GCx C G){ρ:aq Lc}{s:bv}{L:dw}{lo:Lo}(h:gQ G ρ s L lo)(v: ¬Own ρ L)(U:C.base.heap.get? L=none),Fm C (G.envL L) ρ s lo) n (xEA i λm F t=>⟨m,F,λx hx=>(t x hx).sameA sa⟩) f q.2
 cases gn with
 |fresh lo=>
  exact xAA t λhne i j=>xAA ((B hne i).run n j) λS1 f sa=>(B hne i).wake n D f j ⟨rfl,aCp (T l.d) D.in1 .refl S1 (R sa i f) e⟩
 |loop it lo=>
  refine iA t λhne i Z k l' p p' K z j=>xAA ((B hne i).run n j) λS1 f sa=>xEA (sa it Z K) λli' e1 e2=>(B hne i).wake n D f j (?_:Sg C.M A.in1 _ (k (.send .none)) _ _ _)
  exact rwL z (rwR e2 (aGc (T l.d) D.in1 .refl S1 (R sa i f) e1 e))
 |last lo=>
  refine sS t λhne i k l' p z j=>xAA ((B hne i).run n j) λS1 f sa=>(B hne i).wake n D f j (?_:Sg C.M A.in1 _ (k (.send .none)) _ _ _)
  exact rwL z (aD0 (.ok (.ret .none)) (.done S1 .refl (R sa i f).locals ⟨ef (List.getElem?_eq_some_iff.mp w).1,by rw[qw];exact e⟩))
 |run=>exact e.elim
 |fin=>
  refine xAA t λhne _ j=>wG ⟨_,nm,N,v,rfl,rfl,rfl⟩ j (zzB (cb (wpAny_genNumber ⟨_,nm,N,v,rfl,rfl,rfl⟩ (zzB (wpAny_genState j ?_)))))
  have W:∀ {P:GenResult->Sem PySem.Fin}{Q:PySem.Fin->bv->Prop}{E:bz->bv->Prop},bI C.M A.in1 (P .finished) Q E s->bI C.M A.in1 (.resume gk (.send .none) [] P) Q E s:=by
   intro P Q E h Y p O
   rw[Sem.wp_resume]
   exact⟨.finished,s,by delta Wakes;exact rwL j ⟨rfl,rfl⟩,h Y p O⟩
  exact W (rwL (by simp:(newExc (.type "StopIteration") [] >>=λx=>(raiseNew x:Sem PySem.Fin))=(newExc (.type "StopIteration") [] >>=λx=>(raiseNew x:Sem PySem.Fin) >>=λy=>(pure y:Sem PySem.Fin))) (zQ D.1 λx h' hx z=>⟨x,rfl,hx,.done (S.extS z) (.ext z) e⟩))
def cGen(names:aq Str)(more:aq V):CF:=λvs H Q=>(vs++more).length=names.length/\Q (.ref H.length) (H++[.gen (.fresh (loB names (vs++more) lo0))])
theorem CV.gen(B:GCx C G)(D:Def C G.fa G.fd G.body){a:aq Str}(F:G.fd.scope.isGenerator=be)(hb:Binds C G.fd a v)(W:∀ ρ h,VRs ρ h v more)(T:∀ x∈a,G.fd.scope.names.lookup x=ao .local):CV C (r+1) (.ref G.fa) (cGen a more):=by
 refine xEA D.obj λo O t=>CC.cv O t ?_
 intro A s ρ H us vs Q hr S hu e
 refine xA e λhlen q=>?_
 have j:=(hu.append (W _ _)).length.trans hlen
 refine codeAny_call_generator hr.lt (S.keep _ _ O) t D.co F D.body (D.code.keeps S.keep) (hb s us S.keep j _ _ _ _ (rwL D.clo (ry D.kind (λx L=>.inl (T x.1 (List.of_mem_zip L).1)) λenv he s1 I=>?_)))
 subst he
 refine xAAA (Fm.call D S (hu.append (W _ _)) j (λx L=>.inl (T x L)) I) λS1 N1 Y ah=>⟨(C.lim.keeps S.keep).keeps I.toInCall.keep,xEE I.toInCall.same λh1 ag U=>xEA Y.ns λm E y=>?_⟩
 have J:s.heap.objs.size≠s1.heap.objs.size:=λq=>by
  refine iZ E λo _ _ g _=>?_
  have:=Heap.lt_size g
  rw[(rfl:(ie G.fd s.heap.objs.size G.fa).locals=s.heap.objs.size),q]at this
  exact Nat.lt_irrefl _ this
 have u:s1.gens=s.gens:=by rw[U]
 have d:∀ b o,s1.heap.get? b=ao o->(s1.heap.push {cls:=.type "generator",data:=.fields #[.int s1.gens.size 0,.str G.fd.name s1.toks,.str G.fd.qualname (s1.toks+1)]}).get? b=ao o:=λb o e=>Heap.get?_push_of_some _ e
 have M:s.heap.get? s1.heap.objs.size=none:=by
  cases q:s.heap.get? s1.heap.objs.size with
  |none=>rfl
  |some o=>have:=I.toInCall.keep _ _ q;rw[bG]at this;cases this
 have X:=S.new (s':= {s1 with gens:=s1.gens.push (.fresh (.func G.body (ie G.fd s.heap.objs.size G.fa))),toks:=s1.toks+1+1,heap:=s1.heap.push {cls:=.type "generator",data:=.fields #[.int s1.gens.size 0,.str G.fd.name s1.toks,.str G.fd.qualname (s1.toks+1)]}})
  (l:=⟨s1.heap.objs.size,s.heap.objs.size,ao s.gens.size⟩) (m:=.gen (.fresh (loB a (vs++more) lo0))) (λb o e=>d b o (I.toInCall.keep b o e)) (λk x e=>by
   have w:k<s.gens.size:=by
    refine Or.elim (q0 k s.gens.size) (λq=>q) λq=>?_
    ·rw[Array.getElem?_eq_none q]at e;cases e
   rw[u,Array.getElem?_push,cc (gq w)];exact e) (by rw[U]) (by rw[u];exact S.bare.push rfl) M (bG _)
  (λk e l' P e'=>by
   refine xE (nq P) λi hi=>?_
   refine cyS e λzq=>?_;subst zq;exact Nat.lt_irrefl _ ((by
    intro G B H ρ s i k l S N c
    have w:i<H.length:=by exact rwR S.len ((List.getElem?_eq_some_iff.mp N).1)
    have o:=S.objs i H[i] l (cg w) N
    revert o
    cases H[i] with
    |list vs=>rintro ⟨_,g,_⟩;rw[g]at c;cases c
    |ro vs=>rintro ⟨_,g,_⟩;rw[g]at c;cases c
    |dict n f=>rintro ⟨_,g,_⟩;rw[g]at c;cases c
    |eset=>rintro ⟨_,g,_⟩;rw[g]at c;cases c
    |inst fs=>rintro ⟨g,_⟩;rw[g]at c;cases c
    |itr p=>
     cases p with
     |none=>rintro ⟨_,g,_⟩;rw[g]at c;cases c
     |some p=>rintro ⟨_,g,_⟩;rw[g]at c;cases c
    |gen R=>
     intro o
     have o':fQ G ρ s l R:=by rw[<-B.gr];exact o
     refine dQ o' λg nm qn Z O y=>?_
     obtain rfl:g=k:=by exact Option.some.inj (rwR Z c)
     have K:∀ {x},s.gens[g]? =ao x->g<s.gens.size:=λ{x} e=>by
      refine Or.elim (q0 g s.gens.size) (λq=>q) λq=>?_
      ·cases ((Array.getElem?_eq_none q)▸e)
     cases R with
     |fresh lo=>exact K y.2.2
     |loop it lo=>exact iA y λ_ _ _ _ _ _ _ _ _ z=>K z
     |last lo=>exact sS y λ_ _ _ _ _ _ z=>K z
     |run=>exact K y.2
     |fin=>exact K y.2.2:∀{G:GSh}(B:GCx C G){H:MH}{ρ:aq Lc}{s:bv}{i k:Nat}{l:Lc}(S:Sim C H ρ s)(N:ρ[i]? =ao l)(c:l.g=ao k),k<s.gens.size) B S hi e'))
  (by
   show C.GR _ _ _ _
   rw[B.gr]
   exact⟨s.gens.size,.str G.fd.name s1.toks,.str G.fd.qualname (s1.toks+1),rfl,by exact rwR u (Heap.get?_push_size _ rfl),J,⟨m,E.keeps d,λx L=>(y x L).mono (jr _ _) (cY d)⟩,by rw[u];simp;rfl⟩)
 exact⟨X.1,X.2 _,VR.ref S.last,q⟩
theorem l6(d:GCx C G){gi:Nat}(S:Sim C H ρ s)(b:ρ[gi]? =ao l)(e:H[gi]? =ao (.gen gn)):∃ k,s.heap.IsGen l.a k:=by
 have o:fQ G ρ s l gn:=by rw[<-d.gr];exact (S.objs gi _ l e b)
 exact dQ o λgk nm f g c h=>⟨gk,_,nm,f,c,rfl,rfl,rfl⟩
inductive GnM{C:Cx}(ρ:aq Lc)(s:bv)(gi:Nat):bz->(dw->Prop)->Prop
 |mk {l k} (h1:ρ[gi]? =ao l) (h2:s.heap.IsGen l.a k):GnM ρ s gi (.ref l.a) (λq=>fm)
def l4(hG:GCx C G)(r0:Nat)(VV:∀ L,GV C r0 G g (G.envL L)):ItK C where
 σ:=Nat
 nx:=λgi H Q=>g.nx gi H λo H'=>Q (o.map λv=>(v,gi)) H'
 rel:=λρ s gi x X=>∃ l,ρ[gi]? =ao l/\x= .ref l.a/\X=λc=>fm
 mid:=λρ s gi u x X=>GnM (C:=C) ρ s gi x X
 tg:=λc=>s7
 need:=r0+2
 mono:=λh e i hk=>xEA h λl h1 h=>⟨l,aT e h1,h⟩
 alive:=λh b hb=>cU h λl h1 h2 h3=>by subst h3;exact hb.elim
 next:=by
  rintro A s ρ H gi x X Q r hnd hr S ⟨l,hl,rfl,rfl⟩ hX e
  have hr':Room (r0+2) A:=by
   refine xAA hr λh1 h2 h3=>?_
   exact⟨h1,A40 hnd h2,A41 hnd h3⟩
  have nxi:∀ {ρ' s'},Nx ρ noW s ρ' s'->NxI ρ (λc=>fm) s ρ' s':=λN=>⟨N.pre,N.new,N.kp,N.imm,λb o e c=>N.al b o e⟩
  refine wmN (aGe hG VV hr' S hl e) λo s' p=>?_
  cases p with
  |item S' N' r' hg q=>
   refine xE hg λgn hH=>?_
   refine xE (l6 hG S' (aT N'.pre hl) hH) λk hk=>?_
   exact .item S' (nxi N') r' (.mk (aT N'.pre hl) hk) q
  |done S' N' q=>exact .done S' (nxi N') q
 lgo:=by
  rintro A s ρ H it x X u target r hr S M _ hX
  cases M with
  |mk h1 h2=>
   refine dQ h2 λo nm qn h2 h3 c=>?_
   exact kI (T:="generator") h2 h3 (by decide) ⟨S,.refl,_,h1,rfl,rfl⟩
theorem gG.gen(a:GCx C G)(b:∀ L,GV C r0 G g (G.envL L)):gG (l4 a r0 b):=by
 rintro A s ρ H it x X Q S ⟨y,f⟩ ⟨l,e,rfl,rfl⟩ h
 exact xE (f.elim λgn h q=>⟨gn,aGb h⟩) λgn d=>xE (l6 a S e d) λk c=>sf c h
def iG(f:EF):Lo->MH->(Nat->MH->Prop)->Prop:=λlo H Q=>f lo H λv H1=>Lf v.rf λi=>(∃ gn,H1[i]? =ao (.gen gn))/\Q i H1
theorem IV.gen(b:GCx C G)(i:∀ L,GV C r0 G g (G.envL L))(h:EV C r env e f):IV (l4 b r0 i) r env e (iG f):=λt t t t t t p S F q=>h.run p S F q λS1 o j q=>q.elim λi d q=>by
  refine cU (j.toRef d) λl t a c=>rwL a ?_
  refine xA q λz106 q=>?_;obtain⟨s,m⟩:=z106
  exact xE (l6 b S1 c m) λk k=>sf k ⟨S1,o,⟨l,c,rfl,rfl⟩,λb n=>n.elim,q⟩
def eJ(K:ItK C)(ai:Nat):Nat->K.σ->MH->(MH->Prop)->Prop
 |0,_,_,_=>fm
 |n+1,it,H,Q=>K.nx it H λres H1=>match res with
  |none=>Q H1
  |some p=>Lf (H1[ai]?.bind MO.own) λvs=>vs.length<1000000/\eJ K ai n p.2 (H1.set ai (.list (vs++[p.1]))) Q
inductive XEnd(C:Cx)(ρ0:aq Lc)(s0:bv)(ai:Nat)(l:Lc)(Q:MH->Prop)(s':bv):Prop
 |mk {ρ' H'} (S:Sim C H' ρ' s') (N:Nx ρ0 noW s0 ρ' s') (hl:ρ'[ai]? =ao l) (q:Q H'):XEnd C ρ0 s0 ai l Q s'
theorem wT{K:ItK C}(d:K.need<=r)(t:∀ {ρ s it x X u},K.mid ρ s it u x X->K.rel ρ s it x X):∀ (n:Nat){A:eu}{h s:bv}{ρ0 ρ:aq Lc}{H:MH}{it:K.σ}{x:bz}{X:dw->Prop}{Q:MH->Prop},Room r A.in1->ρ[m]? =ao l->Nx ρ0 noW h ρ s->Sim C H ρ s-> K.rel ρ s it x X->(∀ b,X b->h.heap.get? b=none/\¬Own ρ b/\C.base.heap.get? b=none)->eJ K m n it H Q-> kN C.M A (.builtin "list.extend.loop" ⟨[.ref l.a,x,res],[]⟩) (λrr s'=>rr= .ok (.ret res)/\XEnd C ρ0 h m l Q s') s:=λn=>by
 induction n with
 |zero=>
  intro _ _ _ _ _ _ _ _ _ _ _ _ _ _ _ _ e
  exact e.elim
 |succ n G=>
  intro A h s ρ0 ρ H it x X Q B w N S R f e
  refine nu PySem.F.entry_extend_loop (rwL (Around.under_plainId PySem.F.plain_extend_loop _) (zzB (wmN (K.next d B S R (λb q=>⟨(f b q).2.1,(f b q).2.2⟩) e) λo s1 p=>?_)))
  cases p with
  |done j c q=>exact zzP ⟨rfl,j,N.stepI c (λb q=>(f b q).1),aT c.pre w,q⟩
  |item j c D I q=>
   refine q.elim λvs E q=>xEE (jM j (aT c.pre w) (lB E)) λxs J O=>?_
   have y:xs.size<=uR:=by exact rwL dx (A33 O.r.sz q.1)
   have g:=λb q=>xE (K.alive R b q) λo' v=>c.owns v (f b q).2.1
   refine zzB (mi O.x rfl (zzP ?_) y (by rw[Array.size_push];exact eH y))
   have st:=O.put (k:=s1.toks) j (λxs=>xs.push _) (by simpa using O.r.append (.cons D .nil))
   have i:=st.2 noW
   exact⟨qe PySem.F.plain_extend_loop _,G B (aT c.pre w) ((N.stepI c (λb q=>(f b q).1)).trans i) st.1 (K.mono (t I) i.pre i.imm (λb o q v=>i.kp b o v (g b q) (λz=>z))) (λb q=>⟨(f b q).1,g b q,(f b q).2.2⟩) q.2⟩
theorem sC(z:(Value.type T==Value.type "list")=aL)(y:(Value.type T==Value.type "tuple")=aL)(r:fv (.type T) "__len__" =pure none)(l:fv (.type T) "__length_hint__" =pure none){a:dw}(B:s.TypeIs (.ref a) T)(x:∀ {E:eu}{H D:bz->bv->Prop} (s':bv),s'.heap.get? a=s.heap.get? a->D (.ref a) s'->bI C.M E (um (.ref a)) D H s')(k:∀ h' n,h'.get? s.heap.objs.size=ao (ml "list" #[] n)->(∀ b o,s.heap.get? b=ao o->h'.get? b=ao o)->kN C.M A.in1 (.builtin "list.extend.loop" ⟨[.ref s.heap.objs.size,.ref a,.none],[]⟩) (λrr s'=>rr= .ok (.ret .none)/\Q (.ref s.heap.objs.size) s') {s with heap:=h'}):
  bI C.M A (call (.type "list") [.ref a]) Q NoE s:=by
 refine callType_codes (Q₁:=λobj g=>obj= .ref s.heap.objs.size/\g= {s with heap:=s.heap.push {cls:=.type "list",data:=.seq #[]}}) PySem.F.called_list (PySem.F.typeCall_list_1 _) PySem.F.entry_list_init
  (code_list_new _ ⟨rfl,rfl⟩) λobj g d=>?_
 refine xA d λz107 u=>?_;clear d;subst z107;subst u
 refine xEA B λoa c i=>?_
 have w:(s.heap.push {cls:=.type "list",data:=.seq #[]}).get? s.heap.objs.size=ao (ml "list" #[] 0):=Heap.get?_push_size _ rfl
 refine⟨⟨_,w,rfl⟩,PySem.F.args_list_init_2 _ _,?_⟩
 have j:∀ {h:jy}{f:iz bz->iz bz},(∀ b o,s.heap.get? b=ao o->h.get? b=ao o)->∀ b o,s.heap.get? b=ao o->(h.update s.heap.objs.size (Obj.mapSeq f)).get? b=ao o:=λ{h f} q b o e=>
  (Heap.get?_update_ne _ _ _ _ (gq (Heap.lt_size e))).trans (q b o e)
 refine zzB (listItems_at w rfl (zzB (rW w rfl (zzB (vk ?_)) (hN _) (hN _))))
 have k1:=j (f:=λO=>(#[]:iz bz)) (λb o e=>Heap.get?_push_of_some _ e:∀ b o,s.heap.get? b=ao o->(s.heap.push {cls:=.type "list",data:=.seq #[]}).get? b=ao o)
 obtain⟨K,v⟩:∃ m,((s.heap.push {cls:=.type "list",data:=.seq #[]}).update s.heap.objs.size (Obj.mapSeq λO=>(#[]:iz bz))).get? s.heap.objs.size=ao (ml "list" #[] m):=⟨_,ny w λO=> #[]⟩
 revert k1 v
 generalize (s.heap.push {cls:=.type "list",data:=.seq #[]}).update s.heap.objs.size (Obj.mapSeq λO=>(#[]:iz bz))=h2
 refine λk1 v=>(zzB (uQ ⟨oa,k1 _ _ c,i⟩ ?_))
 have G:Builtin.List.listSameRef (.ref s.heap.objs.size) (.ref a)=aL:=by simp only[Builtin.List.listSameRef];simpa using (λq=>by exact Nat.lt_irrefl _ (q▸(Heap.lt_size c)))
 simp only[G,z,y,Bool.or_false,iu,mq]
 refine zzB (x _ ((k1 _ _ c).trans c.symm) (zzB (cb (zzB (nr ⟨oa,k1 _ _ c,i⟩ r (zzB (nr ⟨oa,k1 _ _ c,i⟩ l (zzP ?_))))))))
 show bI _ A.in1.in1 (rule "list.extend.makes-room" >>=λO=>Builtin.List.listTouch (.ref s.heap.objs.size) >>=λO=>
  again (.builtin "list.extend.loop" ⟨[.ref s.heap.objs.size,.ref a,.none],[]⟩)) _ _ _
 refine zzB (pY (zzB (zzB (mi v rfl ?_ (by rw[dx];decide) (by rw[dx];decide)))))
 obtain⟨N,t⟩:∃ m,(h2.update s.heap.objs.size (Obj.mapSeq λxs=>xs.push .none)).get? s.heap.objs.size=ao (ml "list" #[.none] m):=⟨_,ny v λxs=>xs.push .none⟩
 refine mi t rfl ?_ (by rw[dx];decide) (by rw[dx];decide)
 obtain⟨I,J⟩:∃ m,((h2.update s.heap.objs.size (Obj.mapSeq λxs=>xs.push .none)).update s.heap.objs.size (Obj.mapSeq λxs=>xs.pop)).get? s.heap.objs.size=ao (ml "list" #[] m):=⟨_,ny t λxs=>xs.pop⟩
 exact zzP ⟨qe PySem.F.plain_extend_loop _,k6 (k _ I J (j (j (f:=λxs=>xs.push .none) k1))) λrr L p=>(xA p λe q=>e▸⟨rfl,q⟩)⟩
theorem sB{K:ItK C}(c:K.need<=r)(y:∀ {ρ s it x X u},K.mid ρ s it u x X->K.rel ρ s it x X)(F:(Value.type T==Value.type "list")=aL)(E:(Value.type T==Value.type "tuple")=aL)(f:fv (.type T) "__len__" =pure none)(d:fv (.type T) "__length_hint__" =pure none){it:K.σ}{a:dw}(Y:Room (r+1) A)(P:Nx ρ0 noW t ρ s)(S:Sim C H ρ s)(R:K.rel ρ s it (.ref a) X)(i:∀ b,X b->t.heap.get? b=none/\¬Own ρ b/\C.base.heap.get? b=none)(G:s.TypeIs (.ref a) T)(j:∀ {J:eu}{N I:bz->bv->Prop} (s':bv),s'.heap.get? a=s.heap.get? a->I (.ref a) s'->bI C.M J (um (.ref a)) I N s')(e:eJ K H.length n it (H++[.list []]) Q):bI C.M A (call (.type "list") [.ref a]) (bR C ρ0 t λv H'=>v= .ref H.length/\Q H') NoE s:=by
 refine sC F E f d G j λh' n1 L V=>?_
 have g:=S.grow (k:=s.toks) (l:=⟨s.heap.objs.size,s.heap.objs.size,none⟩) (m:=.list []) V (bG _) (bG _) rfl ⟨rfl,rfl,_,_,L,.nil⟩
 have h:=g.2 noW
 have B:Room r A.in1.in1:=by
  exact xAA Y λh1 W Z=>⟨h1,zzM1 0x557cf692bea00015f3d07da402bea00007 [A.in1.in1.depth,r] ⋯ W,zzM1 0x51fa83da41a3e07d07da00000007ea0f41f69001a3ea00007 [A.units,r] ⋯ Z⟩
 refine k6 (wT (ρ0:=ρ0) c y n B S.last (P.trans h) g.1 (K.mono R h.pre h.imm (λb o q D=>h.kp b o D (i b q).2.1 (λz=>z)))
  (λb q=>⟨(i b q).1,xE (K.alive R b q) λo' D=>h.own D (i b q).2.1,(i b q).2.2⟩) e) λrr s5 p=>?_
 obtain⟨rfl,O,U,w,q⟩:=p
 exact⟨rfl,O,U,.ref w,rfl,q⟩
def isG(H:MH)(vs:aq V):bn Nat:=((one vs).bind V.rf).bind λi=>(H[i]?.bind MO.gn).map λq=>i
def mV(K:ItK C)(σ:Nat->K.σ):CF:=λvs H Q=>match isG H vs with
 |some i=>∃ n,eJ K H.length n (σ i) (H++[.list []]) λH'=>Q (.ref H.length) H'
 |none=>cList vs H Q
set_option tactic.hygienic true in
theorem CV.listG(f:GCx C G)(VV:∀ L,GV C r0 G g (G.envL L))(m:r0+2<=r):CV C (r+1) (.type "list") (mV (l4 f r0 VV) (λi=>i)):=by
 refine⟨dD,?_⟩
 intro A s ρ H O vs Q w S rs e
 unfold mV at e
 split at e
 ·rename_i i hi
  refine xE e λn e=>xEA (bt.mp hi) λj k hi=>xEA (dr.mp hi) λgn j a=>?_;subst a
  refine xEA (bt.mp k) λv D k=>xEA (jO rs D) λu c y=>rwL c ?_
  refine cU (y.toRef k) λl d b t=>rwR d (rwL b ?_)
  refine wmN ((by
   exact xE (l6 f S t (aGb j)) λk u=>sB (K:=l4 f r0 VV) m (λM=>by cases M with |mk B v=>exact⟨_,B,rfl,rfl⟩) (by decide) (by decide) PySem.F.gen_no_len PySem.F.gen_no_hint w .refl S ⟨l,t,rfl,rfl⟩ (λb z=>z.elim) u.typeIs (λs' h q=>(iZ u λo nm I v N=>sf ⟨o,nm,I,h.trans v,N⟩ q)) e)) λx s' p=>?_
  obtain⟨x,J,E,n,q⟩:=p
  subst n
  exact⟨x,J,E,q⟩
 ·exact CV.list.call w S rs e
structure KCx(C:Cx)(K:r3):Prop where
 mem:K.In C.base.heap
 makes:makesIn K d4=be
 init:findIn K (.ref d4) "__init__" =ao (ao (.ref 160))
 initT:typeIn K (.ref 160)=ao (.type "function")
 callS:specialIn K (.ref d4) "__call__" =ao (ao (.builtin "type.__call__"))
 callM:specialIn K (.ref aF) "__call__" =ao (ao (.builtin "type.__call__"))
 typM:instIn K (.ref aF) (.type "type")=ao be
 clsM:∃ oc od cd sl,K.lookup aF=ao ⟨oc,od,.cls cd,sl⟩/\cd.mro= [.ref aF,.type "tuple",.type "object"]/\cd.hasDel=aL/\cd.hasDict=aL/\cd.slotNames= []/\(sl.toList[4]?).join=ao .none/\cd.abstract=aL/\cd.collection=none
 clsS:∃ oc od cd sl,K.lookup d4=ao ⟨oc,od,.cls cd,sl⟩
 readsM:readsIn K aF (.type "type")=be
 newM:findCls K (.ref aF) (.type "type") "__new__" =ao (.get (.builtin "staticmethod.__get__") (.ref 136) .none (.ref aF))
 makeM:findCls K (.ref aF) (.type "type") "_make" =ao (.get (.builtin "classmethod.__get__") (.ref 91) .none (.ref aF))
 smM:recIn K 136 "staticmethod" =ao [.ref 82]
 cmM:∃ b,recIn K 91 "classmethod" =ao [.ref 89,b]
 initM:findIn K (.ref aF) "__init__" =ao (ao (.builtin "object.__init__"))
 newT:typeIn K (.ref 82)=ao (.type "function")
theorem v5{K:r3}(f:K.In C.base.heap)(n:∃ oc d cd sl,K.lookup c=ao ⟨oc,d,.cls cd,sl⟩)(a:specialIn K (.ref c) "__call__" =ao (ao (.builtin "type.__call__"))):∀ h:jy,(∀ b o,C.base.heap.get? b=ao o->h.get? b=ao o)->∃ k,(k=Keeper.frame\/k=Keeper.machine\/k=Keeper.boundFrame)/\nj C.M h (keeperOf (.ref c)) k:=by
 refine λh g=>(n.elim λa0 i=>i.elim λa1 j=>j.elim λa2 l=>l.elim λa3 m=>(λoc d cd sl e=>?_) a0 a1 a2 a3 m)
 have X:=f.keeps g
 exact⟨.machine,.inr (.inl rfl),(Looks.ld (X _ _ e)).andThen ((looks_specialIn X a).andThen (Looks.of_pure (by simp)))⟩
theorem Room.under_call{a:aq bz}(d:Room (r+1) A):Room r (A.under (.builtin "type.__call__" ⟨.ref c::a,[]⟩)):=by
 refine xAA d λh1 b e=>?_
 have w1:(Code.builtin "type.__call__" ⟨.ref c::a,[]⟩).weight=1:=by first |rfl |kernel_rfl
 have w2:(Code.builtin "type.__call__" ⟨.ref c::a,[]⟩).cUnits=1:=by first |rfl |kernel_rfl
 refine⟨h1,(rwL w1 (A30 b):A.depth+(Code.builtin "type.__call__" ⟨.ref c::a,[]⟩).weight+10*r<=700),?_⟩
 ·exact(rwL w2 (zzM1 0x147ea0f69068f81f68000007ea0f41f69001a3ea00007 [A.units,r] ⋯ e):A.units+(Code.builtin "type.__call__" ⟨.ref c::a,[]⟩).cUnits+40*r<=8000)
def cNew(g:CF):CF:=λvs H Q=>g (.ref H.length::vs) (H++[.inst λq=>none]) λv H'=>v= .none/\Q (.ref H.length) H'
theorem u6.run(h:kN C.M A c (u6 C ρ s Q) d)(k:∀ {x s' a v H'},Sim C H' a s'->Nx ρ noW s a s'->VR a s'.heap x v->Q v H'->R (.ok (.ret x)) s'):kN C.M A c R d:=k6 h λrr s' b=>by
  cases rr with
  |error x=>exact b.elim
  |ok f=>
   cases f with
   |ret x=>exact by cases b with |mk S N r q=>exact k S N r q
   |_=>exact b.elim
theorem CV.sm{K:r3}(a:KCx C K)(i:CC C r (.ref 160) g):CV C (r+1) (.ref d4) (cNew g):=by
 refine⟨v5 a.mem a.clsS a.callS,?_⟩
 intro A s ρ H v vs Q p S rs e
 have X:=a.mem.keeps S.keep
 obtain⟨h,u,d,t,os⟩:=s
 refine jh (make_core (makes_of X a.makes) (lp X a.init) (λself=>bind_fn X self a.initT) (.inl rfl) ?_)
 have G:=S.grow (l:=⟨h.objs.size+1,h.objs.size,none⟩) (m:=.inst λw=>none) (k:=t) (λb o e=>Heap.get?_push_of_some _ (Heap.get?_push_of_some _ e)) (Heap.get?_none_of_le (uP _)) (bG _) rfl ⟨rfl,gq (md _),⟨_,(by heap_get:((h.push emptyDict).push (instObj d4 h.objs.size)).get? (h.objs.size+1)=ao (instObj d4 h.objs.size)),rfl,rfl,rfl⟩,λw=>none,
  Heap.Ns1.of_empty ⟨_,#[],_,(Heap.get?_push_of_some _ (Heap.get?_push_at rfl rfl)),rfl,λe f=>ca f (by simp),λw=>rfl⟩,⟨_,(Heap.get?_push_of_some _ (Heap.get?_push_at rfl rfl)),rfl,rfl⟩,λx n=>ca rfl n,λw=>trivial⟩
 have b:=S.last (l:=⟨h.objs.size+1,h.objs.size,none⟩)
 exact u6.run (i p.under_call G.1 (.cons (.ref b) (rs.nx (G.2 noW))) e) λS2 c j q=>by
  exact xA q λq1 q=>⟨(j.noT (by rw[q1];rfl)),S2,(G.2 _).trans c,.ref (aT c.pre b),q⟩
theorem aEk(a b c d:bz):rE "object.__init__" ⟨[a,b,c,d],[]⟩:=by delta rE;kernel_rfl
noncomputable abbrev tI(i j k:bz)(n:Nat)(dd:bn dw):Obj:= {cls:=.ref aF,dict:=dd,data:=.seq #[i,j,k] n}
def NewM(C:Cx)(r:Nat):Prop:=∀ {A:eu}{s:bv}{ρ:aq Lc}{H:MH}{a b c:bz}{i j k:Int},Room r A->Sim C H ρ s->VR ρ s.heap a (.int i)->VR ρ s.heap b (.int j)->VR ρ s.heap c (.int k)->
 kN C.M A (.call (.ref 82) ⟨[.ref aF,a,b,c],[]⟩) (u6 C ρ s λv H'=>v= .mat i j k/\H'=H) s
def matF(H:MH)(is:aq Int):bn (V×MH):=match is with | [i,j,k]=>ao (.mat i j k,H) |_=>none
def y8:CF:=lf λvs H=>(Tis vs).bind (matF H)
theorem VR.toMat(r:VR ρ h u v)(e:v= .mat i j k):∃ a n t1 t2 t3 b,u= .ref a/\h.get? a=ao (tI (.int i t1) (.int j t2) (.int k t3) n b):=by
 subst e
 exact lO r.inv λa n t u v b c d=>⟨a,n,t,u,v,b,c,d⟩
theorem tH{K:r3}(c:KCx C K)(X:K.In h):nj C.M h (mroOf (.ref aF)) [.ref aF,.type "tuple",.type "object"]:=by
 exact oC c.clsM λoc e d sl b a q=>rwR a (((Looks.ld (X _ _ b)).andThen .now).andThen .now)
theorem vZ{K:r3}(d:KCx C K)(X:K.In h):nj C.M h (Bind.madeBy (.ref aF)) none:=by
 refine hY d.clsM λoc l m sl j g c a i b e f=>λA Q E s k q=>(zzB ((tH d X) A _ E s k ?_))
 rw[jo]
 exact zzB (zzB (zzB (zzB (tu (k _ _ (X _ _ j)) (zzP (rwR Array.getElem?_toList (rwL b (zzP (zzP (zzP q))))))))))
theorem tS{K:r3}(b:KCx C K)(X:K.In h)(d:T= .ref aF\/T= .type "tuple" \/T= .type "object"):nj C.M h (og (.ref aF) T) be:=by
 exact oC b.clsM λoc e f sl c a q=>looks_mroIn X (by unfold mroIn clsIn;refine rwL c ?_;rcases d with rfl |rfl |rfl<;>simp [a])
set_option maxHeartbeats 1000000 in
theorem CV.mat{K:r3}(f:KCx C K)(hn:NewM C r):CV C (r+1) (.ref aF) y8:=by
 refine CV.of (v5 f.mem (f.clsM.elim λoc h=>h.elim λod h=>h.elim λcd h=>h.elim λsl h=>⟨oc,od,cd,sl,h.1⟩) f.callM) λ{A s ρ H us vs v H'} hr S rs e=>?_
 refine xEA (bt.mp e) λis hi e=>?_
 refine xEA (rs.ints hi) λts hl1 hl2=>?_
 refine xF (aFq (F:=matF H) e rfl (λo=>rfl) (λo o=>rfl) λo o o o o=>rfl) λi j k z=>?_;subst z
 ·cases e
  refine xF (ts3 hl1 hl2) λta tb tc z113=>?_;subst z113
  clear rs hi hl1 hl2
  have X:=f.mem.keeps S.keep
  refine hY f.clsM λoc od cd sl eC hmro hdel hdict hsn hsl habs hcol=>?_
  have hC:=X _ _ eC
  have m:=looks_specialIn (M:=C.M) X f.callM
  have typ:=looks_instIn (M:=C.M) X f.typM
  refine jh ?_
  obtain⟨h,g,d,t,os⟩:=s
  refine mh ?_
  show bI _ _ (callAny (.ref aF) _) _ _ _
  refine nd_load hC ?_
  show bI _ _ (callAny.viaDunder (.ref aF) _) _ _ _
  unfold callAny.viaDunder
  refine zzB (m.at ?_)
  dsimp only
  rw[tc_bind]
  refine zzB (zzP (zzB (zzP ?_)))
  refine zzP (a:=PySem.Fin.again (.call (.builtin "type.__call__") ⟨.ref aF::[.int i ta,.int j tb,.int k tc],[]⟩)) (And.intro rfl ?_)
  refine codeAny_call_builtin_at (Code.quiet_builtin _ (by decide+kernel)) entry_typeCall (sj tc_kind tc_split typ (tc_args _ _ _) ?_)
  unfold Builtin.«type.__call__»
  have made:=vZ f X
  have hm:=tH f X
  have isT:=tS f X (.inl rfl)
  have lkI:=lp (M:=C.M) X f.initM
  have att:∀ {A':eu}{E':bz->bv->Prop}{Q':bz->bv->Prop}{b:cw},Q' (.ref 82) ⟨h,g,d,t+1,os⟩->bI C.M A' (ub (.ref aF) "__new__" b) Q' E' ⟨h,g,d,t,os⟩:=λhq=>cls_bind X f.readsM f.newM (jh (sm_get (s:=⟨h,g,d,t+1,os⟩) X f.smM (handed_on (by decide+kernel:handedIn (.ref 82)=be) hq)))
  repeat (first |with_reducible refine att ?_ |simp only[iu,c] |with_reducible refine jh ?_ |lk)
  refine u6.run (hn (s:=⟨h,g,d,t+1,os⟩) hr.under_call (S.toks _) (.int i ta) (.int j tb) (.int k tc)) λ{x s1 ρ1 v1 H1} S1 N1 r1 q=>?_
  refine xA q λq1 z114=>?_;clear q;subst z114
  refine lO (r1.toMat q1) λx n1 t1 u1 w1 dd1 z115 hx=>?_;subst z115
  rw[q1]at r1
  have n:=f.mem.keeps S1.keep
  clear att isT made typ m hm lkI hC X hn
  have tx:nj C.M s1.heap (si (.ref x)) (.ref aF):=(Looks.ld hx).andThen .now
  have isT1:=tS f n (.inl rfl)
  have lkI:=lp (M:=C.M) n f.initM
  have made1:=vZ f n
  have isO:nj C.M s1.heap (sr (.ref x) (.type "object")) be:=tx.andThen (tS f n (.inr (.inr rfl)))
  have hC1:=n _ _ eC
  have hm1:=tH f n
  have fin:EPo C ρ ⟨h,g,d,t,os⟩ H1 (.mat i j k) (.ref x) s1:=⟨ρ1,S1,(Nx.toks (t+1)).trans N1,r1⟩
  clear S1 N1 S r1 q1 n
  obtain⟨h1,g1,d1,tt1,os1⟩:=s1
  dsimp only at hx tx isT1 lkI isO hm1 made1 hC1
  unfold sr ss specialOf
  have bi:=Looks.of_pure (M:=C.M) (h:=h1) (oi_bind (.ref x))
  repeat (first |with_reducible refine jh ?_ |rw[Bool.not_true,iu,c] |lk)
  refine jk oi_plain entry_oi (sj oi_kind oi_split isO (aEk _ _ _ _) ?_)
  repeat (first |rw[List.isEmpty_cons,Bool.not_false,Bool.not_true,Bool.true_or,l,iu,c,vp] |lk)
  exact fin
theorem aH8:oh "tuple.__new__" =ao .builtinFn:=by decide+kernel
theorem aDc:splitId "tuple.__new__" =ao ("tuple","__new__"):=by decide+kernel
theorem aDd:vq "tuple.__new__" =be:=by decide+kernel
structure u0(M:ux)(h:jy):Prop where
 obj:∃ oc od cd sl,h.get? aF=ao ⟨oc,od,.cls cd,sl⟩/\cd.hasDel=aL
 isT:nj M h (isType (.ref aF)) be
 sub:nj M h (og (.ref aF) (.type "tuple")) be
 base:nj M h (Bind.staticBase (.ref aF)) (.type "tuple")
 init:nj M h (fv (.ref aF) "__init__") (ao (.builtin "object.__init__"))
theorem mfacts{K:r3}(o:KCx C K)(l:∃ oc m cd sl,K.lookup aF=ao ⟨oc,m,.cls cd,sl⟩/\cd.bases= [.type "tuple"])(X:K.In h):u0 M h:=by
 refine hY o.clsM λoc m cd sl j a f g t i r p=>pB l λoc' v w u d b=>?_
 rw[j]at d
 cases d
 have e:=X _ _ j
 have n:nj M h (mroOf (.ref aF)) cd.mro:=((Looks.ld e).andThen .now).andThen .now
 rw[a]at n
 have c:nj M h (Bind.madeBy (.ref aF)) none:=by
  refine λA Q E s k q=>(zzB (n A _ E s k ?_))
  rw[jo]
  exact zzB (zzB (zzB (zzB (tu (k _ _ e) (zzP (rwR Array.getElem?_toList (rwL i (zzP (zzP (zzP q))))))))))
 refine⟨⟨oc,m,cd,sl,e,f⟩,(Looks.ld e).andThen .now,looks_mroIn X (by unfold mroIn clsIn;rw[j];simp [a]),?_,lp X o.initM⟩
 ·refine λA Q E s k q=>(zzB (n A _ E s k ?_))
  rw[jo]
  refine zzB (zzB (zzB (c A _ E s k (rwL (cc (by decide)) (zzB (((Looks.ld e).andThen .now:nj M h (classData aF) cd) A _ E s k (rwL b (rwL (by first |rfl |kernel_rfl:Builtin.Slots.bestBase [.type "tuple"]=pure (.type "tuple")) (zzB (zzP (zzP ?_)))))))))))
  dsimp only
  rw[jo,PySem.F.called_tuple.made]
  exact zzB (zzB (zzP (rwL (cj (by decide)) (zzP (zzP (zzP q))))))
set_option maxHeartbeats 1000000 in
theorem aB0(F:∀ h,(∀ b o,s.heap.get? b=ao o->h.get? b=ao o)->u0 (h9 prog w) h)(J:s.heap.get? l=ao {cls:=.type "tuple",data:=.seq xs n})(i:xs.size<100)(h:∀ h' x K,(∀ b o,s.heap.get? b=ao o->h'.get? b=ao o)->h'.get? x=ao {cls:=.ref aF,dict:=K,data:=.seq xs}->s.heap.get? x=none->R (.ok (.ret (.ref x))) {s with heap:=h'}):
  kN (h9 prog w) A (.call (.builtin "tuple.__new__") ⟨[.ref aF,.ref l],[]⟩) R s:=by
 obtain⟨⟨oc,N,M,sl,H,k⟩,L,G,B,C⟩:=F s.heap (λO O e=>e)
 have D:=PySem.F.called_tuple.made
 refine jk aDd PySem.F.entry_tuple_new ?_
 obtain⟨p,g,d,t,os⟩:=s
 dsimp only at*
 delta checkBuiltinCall;dsimp only;rw[aH8,aDc];dsimp only
 have m:∀ {y:eu}{z:bz->bv->Prop}{u:aq bz->bv->Prop},(∀ h',(∀ b o,p.get? b=ao o->h'.get? b=ao o)->u xs.toList ⟨h',g,d,t,os⟩)->bI (h9 prog w) y (collect (.ref l)) u z ⟨p,g,d,t,os⟩:=by
  intro y z u I
  exact wpAny_collect_seq l (.inr rfl) J rfl rfl I (by rw[dx];exact A2 i)
 repeat (first |simp only[v.not_true,iu,f,a,j] | (rw[D];refine zzP ?_) |with_reducible refine m ?_ |lk)
 intro E c
 refine zzB (zzP (zzB (wpAny_alloc (zzB ?_))))
 delta newObj
 dsimp only
 rw[cc (by simp [dx];exact A2 i)]
 unfold newObjAsIs classHasDel
 have r:=c _ _ H
 refine zzB (wpAny_alloc (zzB (zzB (wpAny_load (Heap.get?_push_of_some _ (Heap.get?_push_of_some _ r)) (zzP ?_)))))
 rw[k]
 refine zzP (zzP ?_)
 refine h _ _ _ (λb o e=>Heap.get?_push_of_some _ (Heap.get?_push_of_some _ (c b o e))) (by rw[Array.toArray_toList];exact Heap.get?_push_size _ rfl) ?_
 cases q:p.get? (E.push {cls:=.type "dict",data:=.dict #[]}).objs.size with
 |none=>rfl
 |some o=>
  have:=Heap.get?_push_of_some {cls:=.type "dict",data:=.dict #[]} (c _ _ q)
  rw[bG]at this;cases this
theorem nil_in(h:jy):Frag.In [] h:=λq q e=>by cases e
theorem aCr(h:Q (.builtin "tuple.__new__",[]) {s with toks:=s.toks+1}):bI (h9 prog w) A (getMethod (.type "tuple") "__new__" c) Q E s:=by
 have X:=nil_in s.heap
 have a:opaqueClassAbove (.type "tuple")=pure none:=by delta opaqueClassAbove;dsimp only;rw[show Manifest.isStub "tuple" =aL by decide+kernel];rfl
 have b:si (.type "tuple")=pure (.type "type"):=by first |rfl |kernel_rfl
 refine zzB (zzB ((Looks.of_pure b).here ((lp X type_tga).here ?_)))
 dsimp only
 refine rwL (cj canon_tga) (zzB (fg ?_ (λq q z=>zzP z) λq q z=>z))
 refine cls_open X (Looks.of_pure a) (Looks.of_pure b) type_tga (looks_hook X (by rfl)) (by rfl) (by first |decide+kernel |kernel_rfl:findCls [] (.type "tuple") (.type "type") "__new__" =ao (.val (.builtin "tuple.__new__")))
  (zzP (by exact rwL (handedOut_of (by decide+kernel:handedIn (.builtin "tuple.__new__")=be)) (zzP h)))
def V.rw:V->bn dw | .raw a=>ao a |_=>Option.none
theorem VR.toRaw{a:dw}(r:VR ρ h u v)(e:v.rw=ao a):u= .ref a:=by
 cases v with
 |raw=>exact cxS e r.inv
 |_=>first |exact aM e |cases e
def i3(l:aq Int):bn (Int×Int×Int):=match l with | [i,j,k]=>ao (i,j,k) |_=>none
theorem i3_ok(e:i3 l=ao p):l= [p.1,p.2.1,p.2.2]:=by
 refine xF (aFq e rfl (λq=>rfl) (λq q=>rfl) λq q q q q=>rfl) λa b c z=>?_;subst z;refine cxS e ?_;rfl
def aDf(vs:aq V):bn (aq Int):=match vs with | [a,b]=>if a.rw=ao 135 then b.tp.bind Tis else none |_=>none
def aBh(fs:EFs):EF:=λlo H Q=>fs lo H λvs H1=>Lf ((aDf vs).bind i3) λp=>Q (.mat p.1 p.2.1 p.2.2) H1
set_option tactic.hygienic true in
theorem EV.tnew(O:∀ h,(∀ b o,C.base.heap.get? b=ao o->h.get? b=ao o)->u0 C.M h)(L:Glo C "tuple" (.type "tuple"))(d:env.kindOf "tuple" =ao .globalImplicit)(K:EVs C r env l fs)(k:mE env l)(m:fM env (.Name "tuple" I) "__new__" c pos l):EV C r env (.Call (.Attribute (.Name "tuple" I) "__new__" c) l [] pos) (aBh fs):=λA s ρ H lo Q U S F q=>fC (P:=λZ Z=>s7) m.base m.few m.line (jW L d (by decide+kernel) S F λpl=>aCr (lJ (by rw[k.2];rfl) cR
  (wmN (kQ K k U (S.toks (s.toks+1)) (F.nx (.toks _)) q) λa s1 p=>by
  obtain⟨ps,Y⟩:=a
  obtain⟨G,y,W,rs,q⟩:=p
  subst G
  refine⟨y.keep,q.elim λp R q=>(xEA (bt.mp R) λis B D=>o9 ((by
   intro ρ h E vs is r e
   refine xEE (tQ e rfl (λZ=>rfl) λZ Z Z Z=>rfl) λa b z=>?_;subst z
   replace e:=show (if _ then _ else _)=_ from e
   split at e
   ·rename_i B
    refine xEA (bt.mp e) λws D e=>bV r.a2 λu v i J rv=>rwL i ?_
    refine cN (rv.toTup D) λtp f n Z j g rs=>rwL j ?_
    exact xEA (rs.ints e) λts t1 t2=>⟨tp,f,n,ts,by rw[J.toRaw B],g,t1,t2⟩
   ·exact aM e:∀{ρ:aq Lc}{h:jy}{E:aq bz}{vs:aq V}{is:aq Int}(r:VRs ρ h E vs)(e:aDf vs=ao is),∃ tp f n ts,E= [.ref 135,.ref tp]/\h.get? tp=ao {cls:=.type "tuple",data:=.seq f n}/\ts.length=is.length/\f.toList=(is.zip ts).map λx=>Value.int x.1 x.2) rs B) λtp f n ts A gt t1 t2=>?_)⟩
  subst A
  obtain rfl:=i3_ok D
  refine xF (ts3 t1 t2) λt u w t3=>?_
  have t:=Array.toList_inj.mp t3
  subst t
  exact jh (aB0 (λh d=>O h λb o e=>d b o (y.keep b o e)) gt (show 3<100 by decide) λh' x X d T N=>⟨y.extS d,(Nx.toks _).trans (W.trans (.ext d)),.mat T,q⟩))))
structure KMx(C:Cx)(K:r3):Prop where
 toK:KCx C K
 bases:∃ oc od cd sl,K.lookup aF=ao ⟨oc,od,.cls cd,sl⟩/\cd.bases= [.type "tuple"]
 iter:findIn K (.ref aF) "__iter__" =ao (ao (.builtin "tuple.__iter__"))
 len:findIn K (.ref aF) "__len__" =ao (ao (.builtin "tuple.__len__"))
 lt:findIn K (.ref aF) "__lt__" =ao (ao (.builtin "tuple.__lt__"))
 tup:subIn K (.ref aF) (.type "tuple")=ao be
theorem aDo:ri rk "tuple.__iter__" =ao Builtin.«tuple.__iter__»:=lH ⋯
theorem aDl:ri rk "tuple.__len__" =ao Builtin.«tuple.__len__»:=lH ⋯
theorem aIc:oh "tuple.__iter__" =ao .slot:=by decide+kernel
theorem aDm:splitId "tuple.__iter__" =ao ("tuple","__iter__"):=by decide+kernel
theorem aDn:vq "tuple.__iter__" =be:=by decide+kernel
theorem aId(a:bz):rE "tuple.__iter__" ⟨[a],[]⟩:=by delta rE;kernel_rfl
theorem aIa:oh "tuple.__len__" =ao .slot:=by decide+kernel
theorem aDj:splitId "tuple.__len__" =ao ("tuple","__len__"):=by decide+kernel
theorem aDk:vq "tuple.__len__" =be:=by decide+kernel
theorem aIb(a:bz):rE "tuple.__len__" ⟨[a],[]⟩:=by delta rE;kernel_rfl
theorem ifb{b:cw}(L:nj M s.heap m x)(h:Q (ao x) s):bI M A (if b=be then(do let y<-m;pure (ao y)) else(do let y<-m;pure (ao y):Sem (bn (bz×aq bz))).tryCatch λq=>do rule "special.get-raises-dropped";pure none) Q E s:=by
 split
 ·exact zzB (L.here (zzP h))
 ·exact wpAny_tryCatch (zzB (L.here (zzP h)))
set_option maxHeartbeats 1000000 in
theorem xY{K:r3}(c:KMx C K){a:dw}(X:K.In s.heap)(f:s.heap.get? a=ao {cls:=.ref aF,dict:=i,data:=.seq xs n})(h:Q (.ref s.heap.objs.size) {s with heap:=s.heap.push {cls:=.type "tuple_iterator",data:=.fields #[.ref a,.int 0 0]}}):bI C.M A (um (.ref a)) Q E s:=by
 obtain⟨e,g,d,t,os⟩:=s
 have tx:nj C.M e (si (.ref a)) (.ref aF):=(Looks.ld f).andThen .now
 have j:=lp (M:=C.M) X c.iter
 repeat (first |with_reducible refine jh ?_ |lk)
 refine ifb (Looks.of_pure (M:=C.M) (h:=e) (slot_tuple_iter.bind (.ref a))) ?_
 repeat (first |rw[show (Value.builtin "tuple.__iter__" ==Value.none)=aL from by decide,iu,b] |with_reducible refine jh ?_ |lk)
 refine jk aDn aDo (sj aIc aDm (tx.andThen (tO X c.tup)) (aId _) ?_)
 show bI _ _ (do ret (<-newFields "tuple_iterator" [.ref a,rawInt 0])) _ _ _
 refine zzB (g5 (zzP (zzP (zzB (zzB (uQ ⟨_,Heap.get?_push_size _ rfl,rfl⟩ ?_))))))
 exact ji lz.lookup (zzP h)
theorem lC{a:iz bz}(b:vf s.heap it t i)(f:s.heap.get? t=ao g)(e:g.data= .seq a k)(h:a[i]? =ao x)(j:∀ h',vf h' it t (i+1)->Heap.SameBut it s.heap h'->Q (ao x) {s with heap:=h'}):bI (h9 prog w) A (ku (.ref it)) Q E s:=by
 refine cU (id b) λo d l c=>?_
 delta ku
 refine zzB (jv (et b.typeIs lz
  (e7 lz b.typeIs tT ?_ (uf _))))
 show bI _ _ (vx (.ref it) 0 >>=_) _ _ s
 refine zzB (fx d c (x:=.ref t) rfl (rwL (cc (show¬((Value.ref t==Value.none)=be) from Bool.false_ne_true)) (zzB (fx d c rfl (zzB (gu f e ?_))))))
 simp only[fo,h]
 refine zzB (pi d c (by simp) (zzP ⟨x,rfl,zzP (j _ ?_ (Heap.SameBut.update ..))⟩))
 exact⟨_,Heap.get?_update_self _ d (Obj.isFreed_of_fields (Obj.data_mapFields c _)),(Obj.cls_mapFields ..).trans l,by
  rw[Obj.data_mapFields c];simp [rawInt]⟩
theorem aCf{b:iz bz}(h:A.handled=none)(c:vf s.heap it t i)(g:s.heap.get? t=ao j)(f:j.data= .seq b m)(k:b[i]? =none)(l:∀ h',Heap.ExtBut it s.heap h'->Q none {s with heap:=h'}):bI (h9 prog w) A (ku (.ref it)) Q E s:=by
 refine cU (id c) λo d n e=>?_
 delta ku
 refine zzB (jv (et c.typeIs lz
  (e7 lz c.typeIs tT ?_ (uf _))))
 show bI _ _ (vx (.ref it) 0 >>=_) _ _ s
 refine zzB (fx d e (x:=.ref t) rfl (rwL (cc (show¬((Value.ref t==Value.none)=be) from Bool.false_ne_true)) (zzB (fx d e rfl (zzB (gu g f ?_))))))
 simp only[fo,k]
 refine zzB (pY (zzB (pi d e (by simp) (zzB (zzB (g5 (zzB (ji (a:=Value.none) (by first |rfl | (rfl)) (g5 ?_ (by size_fits)))) (by size_fits)))))))
 delta raiseNew;refine zzB (rF ?_)
 first |refine rwL (show A.in1.handled=none from h) ?_ |rw[h]
 refine zzB (zzP (tz ?_))
 refine zzB (jz ⟨_,Heap.get?_push_size _ rfl,rfl⟩ pj ?_)
 exact zzP (l _ (((Heap.SameBut.update ..).extBut.push _).push _))
theorem xI{K:r3}(B:KMx C K){a:dw}(D:A.handled=none)(X:K.In s.heap)(u:s.heap.get? a=ao {cls:=.ref aF,dict:=F,data:=.seq #[x,y,z] n})(G:c.length=3)(d:c.findIdx? (·.1)=none)(h:∀ h',(∀ b o,s.heap.get? b=ao o->h'.get? b=ao o)->bI C.M A (qd (c.map (·.2)) [x,y,z]) Q E {s with heap:=h'}):bI C.M A (unpack (.ref a) c) Q E s:=by
 delta unpack
 refine rwL G (rwL d (zzB (cb ?_)))
 delta unpackItems
 refine zzB (zzB (zzB (((Looks.ld u).andThen .now:nj C.M s.heap (si (.ref a)) (.ref aF)).here ((lp (M:=C.M) X B.iter).here (zzP (zzB (cb (xY B X u ?_))))))))
 have f:=gq (Heap.lt_size u)
 have l:=Heap.get?_push_of_some {cls:=.type "tuple_iterator",data:=.fields #[.ref a,.int 0 0]} u
 refine zzB (cb (zzB (lC ⟨_,Heap.get?_push_size _ rfl,rfl,rfl⟩ l rfl (x:=x) rfl λh1 g m=>?_)))
 have i:=m.extBut a _ f l
 refine zzB (cb (zzB (lC (s:= {s with heap:=h1}) g i rfl (x:=y) rfl λh2 k q=>?_)))
 have p:=q.extBut a _ f i
 refine zzB (cb (zzB (lC k p rfl (x:=z) rfl λh3 j r=>?_)))
 have w:=r.extBut a _ f p
 refine zzB (cb (zzP (zzP (zzP (zzP (rwL (cc (by simp)) (zzB (cb (aCf D j w rfl rfl λh4 v=>(zzP (h h4 λb o e=>?_)))))))))))
 have t:=gq (Heap.lt_size e)
 exact v b o t (r.extBut b o t (q.extBut b o t (m.extBut b o t (Heap.get?_push_of_some _ e))))
def V.mt:V->bn (Int×Int×Int) | .mat i j k=>ao (i,j,k) |_=>Option.none
theorem mt_ok{v:V}(e:v.mt=ao p):v= .mat p.1 p.2.1 p.2.2:=by
 cases v with
 |mat=>refine cxS e ?_;rfl
 |_=>first |exact aM e |cases e
def b3(n:Nat)(g:AFs):AF:=λv lo H Q=>match v.mt with
 |some p=>n=3/\g [.int p.1,.int p.2.1,.int p.2.2] lo H Q
 |none=>aTup n g v lo H Q
set_option tactic.hygienic true in
theorem AV.tupleM{K:r3}(i:KMx C K){pos}(h:AVs C r env c g)(j:(fp c env).length=n)(b:(fp c env).findIdx? (·.1)=none):AV C r env (.Tuple c k pos) (b3 n g):=by
 intro A s ρ H lo u v Q f S F rv e
 unfold b3 at e
 split at e
 ·rename_i p l
  obtain⟨o,e⟩:=e
  subst o
  obtain⟨a,n,t1,t2,t3,q,rfl,m⟩:=rv.toMat (mt_ok l)
  rw[assign_Tuple]
  exact zzB (fh (xI i f.1 (i.toK.mem.keeps S.keep) m j b λh' d=>(wmN (h f (S.extS d) (F.nx (.ext d)) (.cons (.int _ _) (.cons (.int _ _) (.cons (.int _ _) .nil))) e) λt t p=>p.from (Nx.ext d))))
 ·exact AVW.tuple h j b f S F rv e
def bQ:CF:=λvs H Q=>match (one vs).bind V.mt with
 |some _=>Q (.int 3) H
 |none=>cLen vs H Q
set_option maxHeartbeats 1000000 in
theorem uV{K:r3}(e:KMx C K){s:bv}{a:dw}(X:K.In s.heap)(f:s.heap.get? a=ao {cls:=.ref aF,dict:=j,data:=.seq xs n})(b:(xs.size:Int)<2 ^ 63)(h:Q (.int xs.size (s.toks+1)) {s with toks:=s.toks+1+1}):bI C.M A (call (.builtin "len") [.ref a]) Q E s:=by
 refine call_function_entry kind_len plain_len entry_len (args_len1 _) ?_
 unfold Builtin.«len»
 refine zzB (m:=oneArg "len" _) (zzP ?_)
 have tx:nj C.M s.heap (si (.ref a)) (.ref aF):=(Looks.ld f).andThen .now
 have c:∀ {g:eu}{i:bz->bv->Prop}{d:bn bz->bv->Prop},d (ao (.int xs.size s.toks)) {s with toks:=s.toks+1}->bI C.M g (ss (.ref a) "__len__") d i s:=by
  intro g i d k
  refine zzB (zzB (tx.here ((lp (M:=C.M) X e.len).here (cb (zzB ((Looks.of_pure (M:=C.M) (h:=s.heap) (slot_tuple_len.bind (.ref a))).here (zzB (jh (jk aDk aDl (sj aIa aDj (tx.andThen (tO X e.tup)) (aIb _) ?_))))))))))
  show bI _ _ (do let l<-Builtin.Tuple.tupleItemsOf (.ref a);retInt l.size) _ _ s
  refine zzB (zzB (gu f rfl (zzP (zzB (wpAny_mkInt (zzP (zzP k)))))))
 exact zzB (c (zzB (cb (zzP (zzB (vk (rwL (cc (zzM0 0x6803d07da28100084 [xs.size] ⋯)) (rwL (cc (A45 b)) (zzB (wpAny_mkInt (zzP ⟨_,rfl,h⟩)))))))))))
set_option tactic.hygienic true in
theorem CV.lenM{K:r3}(d:KMx C K):CV C r (.builtin "len") bQ:=by
 refine⟨cR,?_⟩
 intro A s ρ H k vs Q h S rs e
 unfold bQ at e
 split at e
 ·rename_i p c
  refine xEA (bt.mp c) λv i c=>xEA (jO rs i) λu b g=>rwL b ?_
  refine lO (g.toMat (mt_ok c)) λa n t1 t2 t3 j a f=>rwL a ?_
  exact uV d (d.toK.mem.keeps S.keep) f (by simp) (.tok S (.int _ _) e)
 ·exact CV.len.call h S rs e
theorem jT:Slot "map" "__next__" "map.__next__" :=.of (owner:="map") (n:="__next__") (by rw[eg,dq];kernel_rfl) (by decide+kernel) (by decide+kernel) (by decide+kernel)
  (by first |exact .inl (by decide+kernel) |exact .inr (by decide+kernel)) (by rw[ir];kernel_rfl)
theorem vY:Slot "map" "__iter__" "map.__iter__" :=.of (owner:="map") (n:="__iter__") (by rw[eg,dq];kernel_rfl) (by decide+kernel) (by decide+kernel) (by decide+kernel)
  (by first |exact .inl (by decide+kernel) |exact .inr (by decide+kernel)) (by rw[ir];kernel_rfl)
theorem jS:ri rk "map.__next__" =ao Builtin.«map.__next__»:=lH ⋯
theorem kV(a:bz):rE "map.__next__" ⟨[a],[]⟩:=by delta rE;kernel_rfl
theorem aAm:mroOf (.type "map")=pure [.type "map",.type "object"]:=by rw[mroOf_type];kernel_rfl
theorem aJn:og (.type "map") (.type "map")=pure be:=by rw[ir];kernel_rfl
noncomputable abbrev aFa(h:jy)(l:dw):jy:=h.push {cls:=.type "list_iterator",data:=.fields #[.ref l,.int 0 0]}
noncomputable abbrev aAn(h:jy)(l:dw):jy:=(aFa h l).push {cls:=.type "tuple",data:=.seq #[.ref h.objs.size]}
noncomputable abbrev aE9(h:jy)(f:bz)(l:dw):jy:=(aAn h l).push {cls:=.type "map",data:=.fields #[.ref (aFa h l).objs.size,f]}
theorem aHn(hl:s.heap.IsList l xs)(h:Q (.ref (aAn s.heap l).objs.size) {s with heap:=aE9 s.heap f l}):bI (h9 prog w) A (call (.type "map") [f,.ref l]) Q E s:=by
 exact callType_new ⟨by decide+kernel,by decide+kernel,⟨_,_,aAm⟩,madeBy_type aAm (by rw[eg,dq];kernel_rfl:fv (.type "map") "__new__" =pure (ao (.builtin "map.__new__"))) (by decide+kernel),by decide+kernel,by rw[ir];kernel_rfl,(.of (owner:="object") (n:="__init__") (by rw[eg,dq];kernel_rfl) (by decide+kernel) (by decide+kernel) (by decide+kernel)
     (by first |exact .inl (by decide+kernel) |exact .inr (by decide+kernel)) (by rw[ir];kernel_rfl))⟩ (by decide) (by kernel_rfl) (by kernel_rfl) (λobj=>PySem.F.args_object_init_3 obj _ _) (lH ⋯) ((by
      exact λf l xs=>.of_wp λprog w A R s h=>by
         obtain⟨hp,g,d,tk,os⟩:=s;refine xA h λhl1 h=>?_
         have a:=aJn
         wp_walk using oz hl1
         exact⟨_,rfl,h⟩:∀(f:bz)(l:dw)(xs:iz bz),Meets (Builtin.«map.__new__» ⟨[.type "map",f,.ref l],[]⟩) (λq R s=>s.heap.IsList l xs/\R (.ok (.ret (.ref (aAn s.heap l).objs.size))) {s with heap:=aE9 s.heap f l})) f l xs) ⟨hl,⟨⟨_,Heap.get?_push_size _ rfl,rfl⟩,h⟩⟩
theorem lD{a:iz bz}(b:s.heap.IsListIter it l i)(g:s.heap.IsList l a)(h:a[i]? =ao x)(j:∀ h',h'.IsListIter it l (i+1)->Heap.SameBut it s.heap h'->Q (ao x) {s with heap:=h'}):bI (h9 prog w) A (ss (.ref it) "__next__") Q E s:=by
 refine cU (id b) λo d k c=>zH g λol f q m e=>et b.typeIs kn
  (e7 kn b.typeIs qt ?_ (rz _))
 show bI _ _ (vx (.ref it) 0 >>=_) _ _ s
 refine zzB (fx d c (x:=.ref l) rfl (rwL (cc (show¬((Value.ref l==Value.none)=be) from Bool.false_ne_true)) (zzB (fx d c rfl (zzB (gu f e ?_))))))
 simp only[fo,h]
 refine zzB (pi d c (by simp) (zzP ⟨x,rfl,j _ ?_ (Heap.SameBut.update ..)⟩))
 exact⟨_,Heap.get?_update_self _ d (Obj.isFreed_of_fields (Obj.data_mapFields c _)),(Obj.cls_mapFields ..).trans k,by
  rw[Obj.data_mapFields c];simp [rawInt]⟩
theorem l3{b:iz bz}(j:A.handled=none)(c:s.heap.IsListIter it l i)(h:s.heap.IsList l b)(k:b[i]? =none)(m:∀ h' y,(∃ o,h'.get? y=ao o/\o.cls= .type "StopIteration")->Heap.ExtBut it s.heap h'->E (.ref y) {s with heap:=h'}):bI (h9 prog w) A (ss (.ref it) "__next__") Q E s:=by
 refine cU (id c) λo d p e=>zH h λol g q n f=>et c.typeIs kn
  (e7 kn c.typeIs qt ?_ (rz _))
 show bI _ _ (vx (.ref it) 0 >>=_) _ _ s
 refine zzB (fx d e (x:=.ref l) rfl (rwL (cc (show¬((Value.ref l==Value.none)=be) from Bool.false_ne_true)) (zzB (fx d e rfl (zzB (gu g f ?_))))))
 simp only[fo,k]
 refine zzB (pY (zzB (pi d e (by simp) (zzB (zzB (g5 (zzB (ji (a:=Value.none) (by first |rfl | (rfl)) (g5 ?_ (by size_fits)))) (by size_fits)))))))
 delta raiseNew;exact zzB (rF (rwL (show A.in1.handled=none from j) (zzB (zzP (tz (m _ _ ⟨_,Heap.get?_push_size _ rfl,rfl⟩ (((Heap.SameBut.update ..).extBut.push _).push _)))))))
structure xC(h:jy)(z TI it m l:dw)(k:Nat):Prop where
 z:h.get? z=ao {cls:=.type "map",data:=.fields #[.ref TI,.ref m]}
 TI:h.get? TI=ao {cls:=.type "tuple",data:=.seq #[.ref it]}
 it:h.IsListIter it l k
 m:h.get? m=ao (methodObj (.ref 89) (.ref aF))
theorem aE6{a:iz bz}(P:xC s.heap z TI it m l k)(d:z≠it)(i:TI≠it)(g:m≠it)(n:s.heap.IsList l a)(o:a[k]? =ao x)(p:∀ h',xC h' z TI it m l (k+1)->Heap.SameBut it s.heap h'->kN (h9 prog w) A.in1 (.call (.ref 89) ⟨[.ref aF,x],[]⟩) (λrr s'=>match rr with | .ok (.ret v)=>Q (ao v) s' |_=>fm) {s with heap:=h'}):
  bI (h9 prog w) A (ku (.ref z)) Q E s:=by
 delta ku
 refine zzB (jv (et ⟨_,P.z,rfl⟩ jT (e7 jT ⟨_,P.z,rfl⟩ jS ?_ (kV _))))
 refine zzB (zzP (zzB (fx P.z rfl rfl (zzB (gu P.TI rfl ?_)))))
 dsimp only
 rw[<-Array.forIn_toList]
 rw[jo]
 refine zzB (zzB (zzB (cb (zzB (lD P.it n o λh1 c b=>(zzP (zzP ?_)))))))
 dsimp only
 refine rwL uc (zzP ?_)
 have j:xC h1 z TI it m l (k+1):=⟨b.extBut z _ d P.z,b.extBut TI _ i P.TI,c,b.extBut m _ g P.m⟩
 refine zzB (fx j.z rfl rfl (zzB (cb (jh (method_call j.m (k6 (p h1 j b) ?_))))))
 intro rr s' h
 cases rr with
 |error e=>exact h.elim
 |ok f=>
  cases f with
  |ret v=>exact zzB (vk (zzP ⟨v,rfl,zzP h⟩))
  |_=>exact h.elim
theorem aJo{a:iz bz}(d:A.handled=none)(P:xC s.heap z TI it m l k)(b:s.heap.IsList l a)(e:a[k]? =none)(f:∀ h',Heap.ExtBut it s.heap h'->Q none {s with heap:=h'}):bI (h9 prog w) A (ku (.ref z)) Q E s:=by
 delta ku
 refine zzB (jv (et ⟨_,P.z,rfl⟩ jT (e7 jT ⟨_,P.z,rfl⟩ jS ?_ (kV _))))
 refine zzB (zzP (zzB (fx P.z rfl rfl (zzB (gu P.TI rfl ?_)))))
 dsimp only
 rw[<-Array.forIn_toList]
 rw[jo]
 exact zzB (zzB (zzB (cb (zzB (l3 d P.it b e λh1 y h g=>(xEA h λo c i=>zzB (jz ⟨o,c,i⟩ pj (zzP (f h1 g)))))))))
theorem Ti_eq(e:Ti v=ao i):v= .int i:=by
 cases v with
 |int=>refine cxS e ?_;rfl
 |_=>first |exact aM e |cases e
def t3(v:V):bn (Int×Int×Int):=(v.tp.bind Tis).bind i3
theorem t3_eq(e:t3 v=ao p):v= .tup [.int p.1,.int p.2.1,.int p.2.2]:=by
 refine xEA (bt.mp e) λl b c=>xEA (bt.mp b) λws d g=>?_
 obtain rfl:=i3_ok c
 obtain rfl:=(by
  exact λ{n}=>by
    induction n with
    |nil=>
     intro _ e
     refine cxS e ?_;rfl
    |cons v vs f=>
     intro is e
     simp only[Tis,fe,uy,bt,pure_def,Option.some.injEq]at e
     refine aC6 e λi b js c a=>?_;clear e;subst a
     rw[Ti_eq b,f c];rfl:∀ {vs:aq V}{is:aq Int},Tis vs=ao is->vs=is.map .int) g
 cases v with
 |tup=>refine cyS d λzq=>?_;subst zq;rfl
 |_=>cases d
def q6(C:Cx)(r:Nat):Prop:=∀ {A:eu}{s:bv}{ρ:aq Lc}{H:MH}{a:bz}{i j k:Int},Room r A->Sim C H ρ s->VR ρ s.heap a (.tup [.int i,.int j,.int k])->
 kN C.M A (.call (.ref 89) ⟨[.ref aF,a],[]⟩) (u6 C ρ s λv H'=>v= .mat i j k/\H'=H) s
inductive MpR(ρ:aq Lc)(h:jy)(σ:Nat×Nat):bz->(dw->Prop)->Prop
 |mk {z TI it m l} (h1:ρ[σ.1]? =ao l) (n1:z≠it) (n2:TI≠it) (n3:m≠it) (P:xC h z TI it m l.a σ.2):MpR ρ h σ (.ref z) (λb=>b=z\/b=it\/b=m)
theorem MpR.mono{a:aq Lc}(R:MpR ρ h σ x X)(e:ρ<+:a)(i:Imm h h')(c:∀ b o,X b->h.get? b=ao o->h'.get? b=ao o):MpR a h' σ x X:=by
 cases R with
 |mk g j k f P=>
  obtain⟨p1,p2,⟨o,p3,d⟩,p4⟩:=P
  exact .mk (aT e g) j k f ⟨c _ _ (.inl rfl) p1,i _ _ p2 (by simp [aZ]),⟨o,c _ _ (.inr (.inl rfl)) p3,d⟩,c _ _ (.inr (.inr rfl)) p4⟩
theorem NxI.thenN(I:NxI ρ X s d s1)(N:Nx d noW s1 c s2)(m:∀ b,X b->(∃ o,s.heap.get? b=ao o)->∃ o,s1.heap.get? b=ao o):NxI ρ X s c s2:=by
 refine⟨I.pre.trans N.pre,λl i=>(xE I.pre λt a=>?_),λb o e j g=>N.kp b o (I.kp b o e j g) (I.owns e j) id,I.imm.trans N.imm,λb o e g=>xE (I.al b o e g) λo' h=>N.al b o' h⟩;subst a
 refine xE N.pre λt' f=>?_;subst f
 rw[cz,qy]at i
 have k:∀ b,s1.heap.get? b=none->s.heap.get? b=none:=λb p=>by
  cases e:s.heap.get? b with
  |none=>rfl
  |some o=>
   refine xE (Classical.byCases (λq:X b=>m b q ⟨o,e⟩) λq=>I.al b o e q) λo' h=>?_
   cases (p▸h)
 refine Or.elim (gb.mp i) (λq=>(I.new l (by simpa using q))) λq=>?_
 ·have n:=N.new l (by simpa using q)
  exact⟨k _ n.1,k _ n.2⟩
set_option tactic.hygienic true in
def tR(C:Cx)(r0:Nat)(hm:q6 C r0):ItK C where
 σ:=Nat×Nat
 nx:=λit H Q=>Lf (lst H (.ref it.1)) λvs=>match vs[it.2]? with
  |none=>Q none H
  |some v=>Lf (t3 v) λp=>Q (ao (.mat p.1 p.2.1 p.2.2,(it.1,it.2+1))) H
 rel:=λρ s σ x X=>MpR ρ s.heap σ x X
 mid:=λρ s σ u x X=>MpR ρ s.heap σ x X
 tg:=λd=>s7
 need:=r0+1
 mono:=λR e i hk=>R.mono e i hk
 alive:=λR b hb=>by
  cases R with
  |mk h1 n1 n2 n3 P=>
   obtain⟨p1,p2,⟨o,p3,p3'⟩,p4⟩:=P
   rcases hb with rfl |rfl |rfl
   ·exact⟨_,p1⟩
   ·exact⟨_,p3⟩
   ·exact⟨_,p4⟩
 next:=λ{A s ρ H σ x X Q r} hnd hr S R hX q=>by
  have hr':Room r0 A.in1:=by
   refine xAA hr λa b c=>?_
   exact⟨a,by show A.depth+10*r0<=700;exact A46 hnd b,by show A.units+1+40*r0<=8000;exact A47 hnd c⟩
  refine q.elim λvs hl q=>?_
  cases R with
  |mk h1 n1 n2 n3 P=>
  rename_i z TI it m l
  refine bV (b9 S (.ref h1) hl) λad xs q1 q2 q3=>?_
  cases q1
  refine cU P.it λoi hoi hci hdi=>?_
  have hi:∀ o,s.heap.get? it=ao o->¬aZ o:=λo' e'=>by rw[hoi]at e';cases e';exact lE hci hdi
  have hXi:=hX it (.inr (.inl rfl))
  cases hv:vs[σ.2]? with
  |some v=>
   rw[hv]at q
   refine Lf.elim (o:=t3 v) q λp hp q=>?_
   refine xEA (q3.get hv) λu hu ru=>?_
   rw[t3_eq hp]at ru
   refine aE6 P n1 n2 n3 q2 (by simpa using hu) λh' P' hs=>?_
   have st:=S.iterStep (h':=h') (a:=it) (λb o hb e=>(hs.2 b hb).trans e) hi hXi.1 hXi.2
   refine u6.run (hm hr' st.1 (ru.mono (cy _) st.2.imm)) λS2 N2 r2 q2=>?_
   refine xA q2 λqv z124=>?_;clear q2;subst z124
   have kp:∀ b o,(b=z\/b=it\/b=m)->h'.get? b=ao o->_:=λb o hb eb=>N2.kp b o eb (hX b hb).1 (λq=>q)
   have I2:=st.2.thenN N2 λb hb d=>by rw[show b=it from hb];refine xEA P'.it λo e d=>?_;exact⟨o,e⟩
   refine .item (it':=(σ.1,σ.2+1)) S2 ⟨I2.pre,I2.new,λb o e ho hb=>I2.kp b o e ho λq=>hb (.inr (.inl q)),I2.imm,λb o e hb=>I2.al b o e λq=>hb (.inr (.inl q))⟩ r2 ?_ (by rw[qv];exact q)
   refine xEA P'.it λoi' e1' e2'=>?_
   exact .mk (aT N2.pre h1) n1 n2 n3 ⟨kp z _ (.inl rfl) P'.z,N2.imm _ _ P'.TI (by simp [aZ]),⟨oi',kp it _ (.inr (.inl rfl)) e1',e2'⟩,kp m _ (.inr (.inr rfl)) P'.m⟩
  |none=>
   rw[hv]at q
   refine aJo hr.1 P q2 (Array.getElem?_eq_none (by rw[q3.sz];exact getElem?_eq_none_iff.mp hv)) λh' he=>?_
   have st:=S.iterStep (h':=h') (a:=it) (λb o hb e=>he b o hb e) hi hXi.1 hXi.2
   exact .done st.1 ⟨st.2.pre,st.2.new,λb o e ho hb=>st.2.kp b o e ho (λq=>hb (.inr (.inl q))),st.2.imm,λb o e hb=>st.2.al b o e (λq=>hb (.inr (.inl q)))⟩ q
 lgo:=λ{A s ρ H σ x X u target r} hr S R d hX=>by
  have R':=R
  cases R with
  |mk h1 n1 n2 n3 P=>exact kI (T:="map") P.z rfl (by decide) ⟨S,.refl,R'⟩
theorem aFe(k:q6 C r0)(d:r0+1<=r)(j:Room (r+1) A)(g:Nx ρ0 noW c ρ s)(S:Sim C H ρ s)(R:MpR ρ s.heap σ (.ref z) X)(i:∀ b,X b->c.heap.get? b=none/\¬Own ρ b/\C.base.heap.get? b=none)(e:eJ (tR C r0 k) H.length n σ (H++[.list []]) Q):bI C.M A (call (.type "list") [.ref z]) (bR C ρ0 c λv H'=>v= .ref H.length/\Q H') NoE s:=by
 have a:∃ f m,s.heap.get? z=ao {cls:=.type "map",data:=.fields #[f,m]}:=by
  cases R with
  |mk l o t p P=>exact⟨_,_,P.z⟩
 exact xEE a λTI m a=>sB d (λM=>M) (by decide) (by decide) (by rw[eg,dq];kernel_rfl:fv (.type "map") "__len__" =pure none) (by rw[eg,dq];kernel_rfl:fv (.type "map") "__length_hint__" =pure none) j g S R i ⟨_,a,rfl⟩ (λs' h q=>(by
  exact wpAny_pyIter_slot ⟨_,h.trans a,rfl⟩ vY (e7 vY ⟨_,h.trans a,rfl⟩ (by exact tq (id':="dict_keyiterator.__iter__") (by rw[fastTable_eq_tree];kernel_rfl) (by first |rfl |decide+kernel) (by decide+kernel) (by rw[fastTable_eq_tree];kernel_rfl):ri rk "map.__iter__" =ao Builtin.«dict_keyiterator.__iter__») (zzP ⟨_,rfl,"map",_,⟨_,h.trans a,rfl⟩,jT.lookup,q⟩) (by delta rE;kernel_rfl)))) e
theorem qX{a:aq Expr}(b:ee (e::a) env=(aL,iw e env)::ee a env)(h:bI M A (spliced (kr pos (ee (e::a) env))) (λvs s'=>Q ⟨vs,[]⟩ s') E s):bI M A (evalArgs f be (kr pos (ee (e::a) env)) []) Q E s:=by
 rw[b]at h ⊢
 exact evalArgs_plain h
def eLM(K:ItK C)(σ:Nat->K.σ)(f:EF):EF:=λlo H Q=>f lo H λa H1=>Lf a.rf λci=>(∃ vs,lst H1 (.ref ci)=ao vs)/\∃ n,eJ K H1.length n (σ ci) (H1++[.list []]) λH2=>Q (.ref H1.length) H2
theorem EV.listMap{K:r3}(d:KCx C K)(L:q6 C r0)(w:r0+1<=r)(he:EV C (r+1) env e f)(P:Glo C "list" (.type "list"))(gm:Glo C "map" (.type "map"))(U:Glo C "Match" (.ref aF))(kl:env.kindOf "list" =ao .globalImplicit)(km:env.kindOf "map" =ao .globalImplicit)(kM:env.kindOf "Match" =ao .globalImplicit)(D:ee [.Call (.Name "map" p2) [.Attribute (.Name "Match" p3) "_make" p4,e] [] p5] env=(aL,iw (.Call (.Name "map" p2) [.Attribute (.Name "Match" p3) "_make" p4,e] [] p5) env)::ee [] env)(I:ee [.Attribute (.Name "Match" p3) "_make" p4,e] env=(aL,iw (.Attribute (.Name "Match" p3) "_make" p4) env)::ee [e] env)(Y:ee [e] env=(aL,iw e env)::ee [] env)(b1:∀ pos,(kr pos (ee [.Call (.Name "map" p2) [.Attribute (.Name "Match" p3) "_make" p4,e] [] p5] env)).any (·.1)=aL)(N:∀ pos,(kr pos (ee [.Attribute (.Name "Match" p3) "_make" p4,e] env)).any (·.1)=aL)(z:ju (.Name "Match" p3) "_make" env (iw (.Name "Match" p3) env)=iw (.Name "Match" p3) env)(R:∀ o y,mv (.Name "Match" p3) o y=pure ()):EV C (r+1) env (.Call (.Name "list" p1) [.Call (.Name "map" p2) [.Attribute (.Name "Match" p3) "_make" p4,e] [] p5] [] p6) (eLM (tR C r0 L) (λi=>(i,0)) f):=by
 refine λA s ρ H lo Q J S F q=>(jl (jW P kl (by decide+kernel) S F (lJ (by rw[b1];rfl) dD (qX D (mG (jl (jW gm km (by decide+kernel) S F (lJ (by rw[N];rfl) dD (qX I (mG (dN z (jW U kM (by decide+kernel) S F ((by
  intro K d A E s b Q X h
  exact xE d.cmM λbb v=>cls_bind X d.readsM d.makeM (jh (cm_get X v (handed_on rfl h))):∀{K:r3}(d:KCx C K){A:eu}{E:bz->bv->Prop}{s:bv}{b:cw}{Q:bz->bv->Prop}(X:K.In s.heap)(h:Q (.ref s.heap.objs.size) {s with heap:=s.heap.push (methodObj (.ref 89) (.ref aF)),toks:=s.toks+1}),bI C.M A (ub (.ref aF) "_make" b) Q E s) d (d.mem.keeps S.keep) (mG (he.run J ((S.push (methodObj (.ref 89) (.ref aF))).toks (s.toks+1)) (F.nx ((Nx.push _).trans (.toks _))) q λ{x s1 ac v1 H1} j B Z q=>q.elim λci u q=>(xAE q λz125 n q=>xE z125 λvs W=>?_)) Y)))) I))))) D)))))
 refine qq ⟨j.keep,cU (Z.toRef u) λlc _ l g=>rwL l ?_⟩
 refine bV (b9 j (.ref g) W) λad xs O q2 q3=>?_
 cases O
 have k:=fA S (bG _)
 have m:=B.kp _ _ (Heap.get?_push_size _ rfl) k (λq=>q)
 have t:∀ b o,s1.heap.get? b=ao o->(aE9 s1.heap (.ref s.heap.objs.size) lc.a).get? b=ao o:=λb o e=>Heap.get?_push_of_some _ (Heap.get?_push_of_some _ (Heap.get?_push_of_some _ e))
 refine aHn q2 (qq ⟨λb o e=>t b o (j.keep b o e),?_⟩)
 have c:=((Nx.push _).trans (.toks _)).trans B
 have G:(aAn s1.heap lc.a).objs.size=s1.heap.objs.size+2:=by rw[Heap.size_push,(Heap.size_push ..)]
 refine wmN (aFe L (ρ0:=ρ) (σ:=(ci,0)) w J (c.trans (.ext t)) (j.extS t)
  (.mk g (by exact rwL G (pn (Nat.lt_add_of_pos_right (by decide)))) (by exact rwL (Heap.size_push ..) (pn (md _))) (gq (Heap.lt_size m))
   ⟨Heap.get?_push_size _ rfl,Heap.get?_push_of_some _ (Heap.get?_push_size _ rfl),⟨_,Heap.get?_push_of_some _ (Heap.get?_push_of_some _ (Heap.get?_push_size _ rfl)),rfl,rfl⟩,t _ _ m⟩) (λb v=>?_) q) λx s' p=>?_
 ·rcases v with rfl |rfl |rfl
  ·exact cM c j (by exact rwL G (Heap.get?_none_of_le (lq _ _)))
  ·exact cM c j (bG _)
  ·exact⟨bG _,B.own (Heap.get?_push_size _ rfl) k,d7 S (bG _)⟩
 ·obtain⟨S',V,T,hv,q⟩:=p
  subst hv
  exact⟨S',V,T,q⟩
theorem Yn0:m<=n->¬(m<=p)->((2:Nat)*q)<=(p+m)->(p+m)<((2:Nat)*(q+(1:Nat)))->q<n:=zzM 0x32ba41f6b00007dac00be07da2a000007a2a02b0be007a2aa00107a68007 [m,n,p,q] ⋯
theorem Yn1:(m-n)<=(p+(1:Nat))->((2:Nat)*q)<=(n+m)->(n+m)<((2:Nat)*(q+(1:Nat)))->(m-(q+(1:Nat)))<=p:=zzM 0x4068a054aa07dac0a01001f6b002f81f68a400001e8a40ac2f801c1f6a029a01007 [m,n,p,q] ⋯
theorem Yn2: ¬(m<=n)->((2:Nat)*p)<=(n+m)->(n+m)<((2:Nat)*(p+(1:Nat)))->(p+(1:Nat))<=m:=zzM 0x65a01f6a00007da800be07da29000007a2902a0be007a29a00107 [m,n,p] ⋯
theorem Yn3:m<=n->¬(m<=p)->((2:Nat)*q)<=(p+m)->(p+m)<((2:Nat)*(q+(1:Nat)))->¬(n=q):=zzM 0xcae8ae904407dac00be07da2a000007a2a02b0be007a2aa00107a68007 [m,n,p,q] ⋯
theorem Yn4:m<n->p<=m->¬(p<=q)->((2:Nat)*r)<=(q+p)->(q+p)<((2:Nat)*(r+(1:Nat)))->r<n:=zzM 0x656e907db00001f6c002f81f6aac00001eaac0b02f801e8aea0041e8a801e907da00007 [m,n,p,q,r] ⋯
theorem Yn5:(m-n)<=(p+(1:Nat))->((2:Nat)*q)<=(n+m)->(n+m)<((2:Nat)*(q+(1:Nat)))->(q-n)<=p:=zzM 0x10312818aaa9ac1001f6b002f81f68a400001e8a40ac2f801c1f6a029a01007 [m,n,p,q] ⋯
theorem Yn6:m<=n->¬(m<=p)->((2:Nat)*q)<=(p+m)->(p+m)<((2:Nat)*(q+(1:Nat)))->q<=n:=zzM 0xcae9ac007dac00be07da2a000007a2a02b0be007a2aa00107a68007 [m,n,p,q] ⋯
theorem Yn7: ¬(m<=n)->((2:Nat)*p)<=(n+m)->(n+m)<((2:Nat)*(p+(1:Nat)))->n<=p:=zzM 0x1a6aa4007da800be07da29000007a2902a0be007a29a00107 [m,n,p] ⋯
theorem Yn8:m<=n->¬(m<=p)->n=q->((2:Nat)*q)<=(p+m)->(p+m)<((2:Nat)*(q+(1:Nat)))->fm:=zzM 0x9ae807dac00be07da2a000007a2a02b0be007ae9047a2aa00107a68007 [m,n,p,q] ⋯
def PW(n:Nat)(c:Nat->Nat->cw):KasT α->(α->Prop)->Prop
 | .ret a,Q=>Q a
 | .ask i j k,Q=>i<n/\j<n/\i≠j/\PW n c (k (c i j)) Q
theorem PW.bind{b:Type}{f:α->KasT b}{Q:b->Prop}:∀ {t:KasT α},PW n c t (λa=>PW n c (f a) Q)->PW n c (t.bind f) Q
 | .ret _,h=>h
 | .ask i j k,⟨e,g,d,l⟩=>⟨e,g,d,PW.bind l⟩
theorem PW.mono{b:α->Prop}(d:∀ a,Q a->b a):∀ {t:KasT α},PW n c t Q->PW n c t b
 | .ret _,h=>d _ h
 | .ask i j k,⟨f,g,e,l⟩=>⟨f,g,e,PW.mono d l⟩
theorem PW.wp{R:α->bv->Prop}{b:Nat->Nat->(cw->bv->Prop)->bv->Prop}{I:bv->Prop}(f:∀ i j D s,i<n->j<n->i≠j->I s->(∀ s',I s'->D (c i j) s')->b i j D s)(g:∀ a s,Q a->I s->R a s):∀ {t:KasT α},PW n c t Q->∀ s,I s->t.kasWp b R s
 | .ret _,h,s,e=>g _ s h e
 | .ask i j k,⟨m,o,l,p⟩,s,e=>f i j _ s m o l e λs' d=>PW.wp f g p s' d
structure Ord(n:Nat)(c:Nat->Nat->cw):Prop where
 tr:∀ x y z,c x y=be->c y z=be->c x z=be
 tot:∀ x y,x<n->y<n->x≠y->c x y=be\/c y x=be
 asy:∀ x y,c x y=be->c y x=aL
def gt(p:iz Nat)(i:Nat):Nat:=p.getD i 0
structure Pm(n:Nat)(p:iz Nat):Prop where
 pm:p.Perm (List.toArray (List.range n))
theorem Pm.tl(P:Pm n p):p.toList.Perm (List.range n):=P.pm.toList
theorem Pm.sz(P:Pm n p):p.size=n:=by
 have:=P.tl.length_eq
 rw[hB]at this
 exact this
theorem Pm.at(P:Pm n p)(h:i<n):∃ h':i<p.toList.length,gt p i=p.toList[i]:=by
 have h':=P.sz.symm▸h
 refine⟨h',?_⟩
 delta gt
 rw[Array.getD_eq_getD_getElem?,Array.getElem?_eq_getElem h'];rfl
theorem Pm.lt(P:Pm n p)(i:Nat)(h:i<n):gt p i<n:=by
 obtain⟨h',e⟩:=P.at h
 exact rwL e (m0.mp (P.tl.mem_iff.mp (List.getElem_mem h')))
theorem Pm.inj(P:Pm n p)(i j:Nat)(a:i<n)(d:j<n)(h:gt p i=gt p j):i=j:=by
 obtain⟨e,b⟩:=P.at a
 obtain⟨f,c⟩:=P.at d
 rw[b,c]at h
 exact(List.getElem_inj (P.tl.nodup_iff.mpr List.nodup_range)).mp h
def Sd(c:Nat->Nat->cw)(p:iz Nat)(m:Nat):Prop:=∀ i j,i<j->j<m->c (gt p i) (gt p j)=be
def Ds(c:Nat->Nat->cw)(p:iz Nat)(m:Nat):Prop:=∀ i j,i<j->j<m->c (gt p j) (gt p i)=be
theorem Sd.snoc(O:Ord n c)(h:Sd c p k)(e:1<=k)(b:c (gt p (k-1)) (gt p k)=be):Sd c p (k+1):=by
 intro i j a d
 rcases q0 j k with q |q
 ·exact h i j a q
 ·obtain rfl:j=k:=A63 d q
  rcases q0 i (j-1) with z |z
  ·exact O.tr _ _ _ (h i (j-1) z (A64 z)) b
  ·obtain rfl:i=j-1:=A65 a z
   exact b
theorem Ds.snoc(O:Ord n c)(h:Ds c p k)(e:1<=k)(b:c (gt p k) (gt p (k-1))=be):Ds c p (k+1):=by
 intro i j a d
 rcases q0 j k with q |q
 ·exact h i j a q
 ·obtain rfl:j=k:=A63 d q
  rcases q0 i (j-1) with z |z
  ·exact O.tr _ _ _ b (h i (j-1) z (A64 z))
  ·obtain rfl:i=j-1:=A65 a z
   exact b
theorem other(O:Ord n c)(P:Pm n p)(b:i<n)(d:j<n)(a:i≠j)(h:c (gt p i) (gt p j)=aL):c (gt p j) (gt p i)=be:=by
 rcases O.tot _ _ (P.lt i b) (P.lt j d) (λq=>a (P.inj i j b d q)) with q |q
 ·cases (q▸h)
 ·exact q
theorem zC(O:Ord n c)(P:Pm n p):∀ (f k:Nat),1<=k->k+f<=n->Sd c p k->PW n c (kas_asc p f k) (λm=>k<=m/\m<=k+f/\Sd c p m/\(m<k+f->c (gt p m) (gt p (m-1))=be)):=λl=>by
 induction l with
 |zero=>
  exact λk i g h=>⟨c5 _,c5 _,h,λq=>ca q (Nat.lt_irrefl _)⟩
 |succ f o=>
  refine λk i g h=>⟨P.lt k (A66 g),P.lt (k-1) (A67 g),λq=>by exact(A68 i (P.inj k (k-1) (A66 g) (A67 g) q)).elim,?_⟩
  cases j:c (p.getD k 0) (p.getD (k-1) 0) with
  |true=>exact⟨c5 _,A69,h,λr=>j⟩
  |false=>
   show PW n c (if aL=be then _ else kas_asc p f (k+1)) _
   exact rwL (cc (by decide)) ((o (k+1) A70 (A71 g) (h.snoc O i (other O P (A66 g) (A67 g) (A72 i) j))).mono λm z=>xAAA z λa b d e=>⟨A32 a,A73 b,d,λq=>e (zzM1 0x16a07da40001f6800007da80a4007da00007 [m,k,f] ⋯ q)⟩)
theorem wE(h:p[i]? =q[j]?):gt p i=gt q j:=by
 delta gt
 rw[Array.getD_eq_getD_getElem?,Array.getD_eq_getD_getElem?,h]
set_option tactic.hygienic true in
theorem aF6(a:m<=p.size):gt (kas_rev p 0 m) k=if k<m then gt p (m-1-k) else gt p k:=by
 have h:=getElem?_mirror_all (i:=0) a k
 split
 ·rename_i q
  rw[cj ⟨hN _,q⟩]at h
  refine wE (h.trans ?_)
  congr 1
  exact (zzM0 0x4104142082150890410448214882082841044a11244291128410a41f68041a41f6803d001041 [m,k] ⋯)
 ·rename_i q
  rw[cc (λz=>q z.2)]at h
  exact wE h
theorem Pm.rev(P:Pm n p):Pm n (kas_rev p 0 m):=⟨(mirror_perm _ _ _ _).trans P.pm⟩
theorem Ds.rev(P:Pm n p)(d:m<=n)(h:Ds c p m):Sd c (kas_rev p 0 m) m:=by
 intro i j a b
 rw[aF6 (by rw[P.sz];exact d),aF6 (by rw[P.sz];exact d),cj (A53 a b),cj b]
 exact h _ _ (zzM2 0x8a2290a82a0502810888a2290a82a4290a8281a01f6a04107da41f6a041000a81f690001e907da00007 [i,j,m] ⋯ a b) (zzM1 0x228a48a41f6a07da4104002907da00007 [j,m,i] ⋯ b)
set_option tactic.hygienic true in
theorem aHc(O:Ord n c)(P:Pm n p)(v:1<=n):PW n c (kas_count n p) (λr=>Pm n r.2/\1<=r.1/\r.1<=n/\Sd c r.2 r.1):=by
 delta kas_count
 refine PW.bind ((zC O P (n-1) 1 (c5 _) (zzM1 0x94a01f68041f4002807d007 [n] ⋯ v) (λi j o s=>(A81 o s).elim)).mono λm x=>xAAA x λa b d e=>?_)
 split
 ·rename_i B
  exact⟨P,a,zzM2 0xa54a29001f68041f40a401e807d007 [n,(m, p).fst] ⋯ v b,d⟩
 ·rename_i B
  have t:=by simpa using B
  split
  ·rename_i o
   exact⟨P.lt 0 (A83 b o),P.lt (m-1) (A84 b o),λq=>by exact(A85 o (P.inj 0 (m-1) (A83 b o) (A84 b o) q)).elim,rwL (d 0 (m-1) (zzM1 0xa907da0107d03d000a01f41f40007 [m] ⋯ o) (zzM1 0x152807d07da01000a01f41f40007 [m] ⋯ o)) ⟨P,a,zzM2 0xa4a9a00a01f41f4000707da4107d028007 [(m, p).fst,n] ⋯ b o,d⟩⟩
  ·rename_i o
   obtain rfl:m=1:=zzM2 0x4a81f68068a01f41f400041e807d007 [m] ⋯ a o
   have G:Ds c p 2:=by
    intro i j s I
    obtain rfl:j=1:=zzM2 0x4a81f69042f41f690001e907da00007 [i,j] ⋯ s I
    obtain rfl:i=0:=zzM1 0x2503da0107d07da00007 [i] ⋯ s
    exact e (zzM2 0xa485141f68041f4007d07d000a2807d0441e807d007 [n] ⋯ v t)
   delta kas_descPart
   refine PW.bind (((by
    exact λO {p} P=>λl=>by
      induction l with
      |zero=>
       exact λk o s h=>⟨rfl,rfl,c5 _,c5 _,h⟩
      |succ f H=>
       refine λk o s h=>⟨P.lt k (A66 s),P.lt (k-1) (A67 s),λq=>by exact(A68 o (P.inj k (k-1) (A66 s) (A67 s) q)).elim,?_⟩
       cases A:c (p.getD k 0) (p.getD (k-1) 0) with
       |true=>
        show PW n c (if be=be then(if 0>0 then _ else kas_desc f p (k+1) 0) else _) _
        exact rwL (cj rfl) (rwL (cc (zzM0 0x1a00f41f40f40004 [] ⋯)) ((H (k+1) A70 (A71 s) (h.snoc O o A)).mono λr z=>xAAAA z λa b d e g=>⟨a,b,A32 d,A73 e,g⟩))
       |false=>
        exact rwL (cc (by decide)) ⟨P.lt (k-1) (A67 s),P.lt k (A66 s),λq=>by exact(A76 o (P.inj (k-1) k (A67 s) (A66 s) q)).elim,rwL (other O P (A66 s) (A67 s) (A72 o) A) ⟨rfl,rfl,c5 _,by exact(A69:k<=k+(f+1)),h⟩⟩:∀(O:Ord n c){p:iz Nat}(P:Pm n p),∀ (f k:Nat),1<=k->k+f<=n->Ds c p k->PW n c (kas_desc f p k 0) (λr=>r.1=p/\r.2.2=0/\k<=r.2.1/\r.2.1<=k+f/\Ds c p r.2.1)) O P (n-(1+1)) 2 (zzM0 0x42f41f40 [] ⋯) (zzM2 0x1240a8a01f41f40a010bd000a2807d0441e807d007 [n] ⋯ v t) G).mono λr y=>xAAAA y λr1 F w C D=>?_)
   rw[cc (zzM1 0x9a2807d03d000100f68047 [r.snd.snd] ⋯ F)]
   delta kas_tail3
   refine rwL r1 ?_
   have u:=A96 v t C
   exact PW.bind ((zC O P.rev (n-r.2.1) r.2.1 (zzM1 0x16807d0280bd007 [r.snd.fst] ⋯ w) (zzM1 0x2529a29068000a68007 [r.snd.fst,n] ⋯ u) (D.rev P u)).mono λm' z=>xAAA z λa' J E K=>⟨P.rev,by exact(zzM2 0x56907d029a001e80bd007 [r.snd.fst,m'] ⋯ w a':1<=m'),by exact(zzM2 0x29529a80a2906802a007a68007 [r.snd.fst,n,m'] ⋯ u J:m'<=n),E⟩)
set_option tactic.hygienic true in
theorem pS(O:Ord n c)(P:Pm n p)(e:k<n)(hs:Sd c p k):∀ (f l r:Nat),l<=r->r<=k->r-l<=f->(∀ i,i<l->c (gt p i) (gt p k)=be)->(∀ i,r<=i->i<k->c (gt p k) (gt p i)=be)-> PW n c (kas_place p k f l r) (λx=>x<=k/\(∀ i,i<x->c (gt p i) (gt p k)=be)/\(∀ i,x<=i->i<k->c (gt p k) (gt p i)=be)):=λzz=>by
 induction zz with
 |zero=>
  exact λl r m b h j g=>⟨A101 m b,j,λi d=>g i (zzM2 0x14aaaa802aa401c0f69a01007 [r,l,i] ⋯ h d)⟩
 |succ f t=>
  intro l r m b h j g
  unfold kas_place
  split
  ·exact⟨A101 m b,j,λi d=>g i (by omega)⟩
  ·rename_i a
   refine⟨P.lt k e,P.lt ((l+r)/2) (Yn4 e b a zzD zzE),λq=>by exact Yn8 b a (P.inj k ((l+r)/2) e (Yn4 e b a zzD zzE) q) zzD zzE,?_⟩
   cases s:c (p.getD k 0) (p.getD ((l+r)/2) 0) with
   |true=>
    refine t l ((l+r)/2) (Yn7 a zzD zzE) (Yn6 b a zzD zzE) (Yn5 h zzD zzE) j λi d o=>?_
    rcases Nat.eq_or_lt_of_le d with q |q
    ·exact rwR q s
    ·exact O.tr _ _ _ s (hs _ i q o)
   |false=>
    have u:=other O P e (Yn4 e b a zzD zzE) (Yn3 b a zzD zzE) s
    refine t ((l+r)/2+1) r (Yn2 a zzD zzE) b (Yn1 h zzD zzE) (λi d=>?_) g
    rcases Nat.eq_or_lt_of_le (Nat.le_of_lt_succ d) with q |q
    ·exact rwL q u
    ·exact O.tr _ _ _ (hs i _ q (Yn0 b a zzD zzE)) u
set_option tactic.hygienic true in
theorem aF7(c:k<p.size)(b:l<=k):gt (bubble p k (k-l)) i=if i=l then gt p k else if l<i/\i<=k then gt p (i-1) else gt p i:=by
 have h:=getElem?_bubble c (k-l) (zzM0 0x4a8a68040 [k,l] ⋯) i
 rw[(A104 b)]at h
 split
 ·rename_i q;rw[cj q]at h;exact wE h
 ·rename_i q
  rw[cc q]at h
  split
  ·rename_i a;rw[cj a]at h;exact wE h
  ·rename_i a;rw[cc a]at h;exact wE h
theorem aHs(O:Ord n c):∀ (f:Nat){p:iz Nat} (k:Nat),Pm n p->Sd c p k->k+f=n->PW n c (kas_bin f p k) (λq=>Pm n q/\Sd c q n):=λzz=>by
 induction zz with
 |zero=>
  intro p k P m r
  obtain rfl:k=n:=zzM1 0x149a6806903da00047 [k,n] ⋯ r
  exact⟨P,m⟩
 |succ f w=>
  intro p k P m r
  refine PW.bind ((pS O P (A106 r) m k 0 k (hN _) (c5 _) (zzM0 0x12a00f68040 [k] ⋯) (λi v=>ca v (Nat.not_lt_zero _)) (λi h g=>ca h (zzM1 0x5a28a4012907da00007 [i,k] ⋯ g))).mono λl z=>xAA z λa b d=>?_)
  have t:k<p.size:=by exact rwL P.sz (A106 r)
  refine w (k+1) ⟨(bubble_perm _ _ _).trans P.pm⟩ (λi j e s=>?_) (A109 r)
  ·rw[aF7 t a,aF7 t a]
   by_cases h:i=l
   ·rw[cj h,cc (zzM2 0x29a2aa4112aa011e907da00007 [i,j,l] ⋯ e h),cj (zzM3 0x8946aa40a41f6b00016ba011c1f6a001f690001e907da00007 [i,j,k,l] ⋯ e s h)]
    exact d _ (zzM2 0x2a5241f6906a02aa011e907da00007 [i,j,l] ⋯ e h) (zzM2 0x952a81f41f69040001f6a001f690001e907da00007 [i,j,k] ⋯ e s)
   ·rw[cc h]
    by_cases g:l<i/\i<=k
    ·rw[cj g,cc (zzM2 0x968aa9044ae802807da800051e907da00007 [i,j,l,k] ⋯ e g),cj (zzM3 0x2249aa902907dac0005aa802807dac00051c1f6a001f690001e907da00007 [i,j,k,l] ⋯ e s g)]
     exact m _ _ (zzM2 0x1150aa14107da4107d07da01000ae802807da800051e907da00007 [i,j,l,k] ⋯ e g) (zzM2 0x2521a41f41f68040029ac0ac1f6a00014707da4007da00007 [j,k,l,i] ⋯ s g)
    ·rw[cc g]
     by_cases u:j=l
     ·rw[cj u];exact b _ (A118 e u)
     ·rw[cc u]
      by_cases o:l<j/\j<=k
      ·exact rwL (cj o) (m _ _ (zzM2 0xa5241f69041f6b000a01f6b0001eaa40a41f68000147 [l,j,k,i] ⋯ o (A119 e h g o)) (zzM1 0x952a81f41f6904002aa40a41f68000147 [l,j,k] ⋯ o))
      ·exact rwL (cc o) (m _ _ e (zzM4 0x12492452907da80028a6a02a07da00005107a28a8110707da4007da80007a68007 [l,k,j] ⋯ a s u o))
def StSd{α:Type}(key:α->Int)(l:aq α):Prop:=l.Pairwise λa b=>key a<key b
theorem kD:∀ {a b:aq α},a.Perm b->StSd c a->StSd c b->a=b:=λ{n}=>by
 induction n with
 |nil=>
  intro _ p _ _
  exact p.nil_eq
 |cons x r g=>
  intro b p f d
  cases b with
  |nil=>exact ca p.length_eq (by simp)
  |cons y t=>
   have e:x=y:=by
    rcases du.mp (p.mem_iff.mp (.head _)) with h |h
    ·exact h
    ·rcases du.mp (p.mem_iff.mpr (.head _)) with h' |h'
     ·exact h'.symm
     ·exact(A126 ((c3.mp f).1 y h') ((c3.mp d).1 x h)).elim
   subst e
   rw[g (List.Perm.cons_inv p) (c3.mp f).2 (c3.mp d).2]
def ins{α:Type}(key:α->Int)(x:α)(l:aq α):aq α:=l.rec [x] λy r ih=>if key x<key y then x::y::r else y::ih
theorem ins_c{a:α->Int}:ins a x (y::r)=if a x<a y then x::y::r else y::ins a x r:=rfl
def isort(key:α->Int)(l:aq α):aq α:=l.rec [] λx q ih=>ins key x ih
theorem v9(a:α->Int)(x:α)(l:aq α):(ins a x l).Perm (x::l):=by
 induction l with
 |nil=>exact .refl _
 |cons y r b=>
  rw[ins_c]
  by_cases c:a x<a y
  ·rw[cj c]
  ·rw[cc c];exact(b.cons y).trans (.swap x y r)
theorem b5(a:α->Int)(l:aq α):(isort a l).Perm l:=by
 induction l with
 |nil=>exact .refl _
 |cons x r b=>exact(v9 a x _).trans (b.cons x)
theorem ins_sd{a:α->Int}:∀ {l:aq α},StSd a l->(∀ y∈l,a y≠a x)->StSd a (ins a x l):=λ{l}=>by
 induction l with
 |nil=>exact λq q=>List.pairwise_singleton _ _
 |cons y r f=>
  intro h e
  rw[ins_c]
  have d:=c3.mp h
  by_cases b:a x<a y
  ·refine rwL (cj b) (c3.mpr ⟨λz c=>?_,h⟩)
   rcases du.mp c with rfl |c
   ·exact b
   ·exact zzI2 0x15a81f68002a81f690021e907da00087 [a x,a y,a z] ⋯ b (d.1 z c)
  ·refine rwL (cc b) (c3.mpr ⟨λz c=>?_,f d.2 λz c=>e z (.tail _ c)⟩)
   rcases du.mp ((v9 a x r).mem_iff.mp c) with rfl |c
   ·exact zzI2 0x516807da400a8a290c41e8a41f68002107 [a z,a y] ⋯ b (e y (.head _))
   ·exact d.1 z c
theorem qC:∀ {l:aq α},l.Pairwise (λa b=>c a≠c b)->StSd c (isort c l):=λ{l}=>by
 induction l with
 |nil=>exact λq=>.nil
 |cons x r f=>
  intro h
  have d:=c3.mp h
  exact ins_sd (f d.2) λy e=>(d.1 y ((b5 c r).mem_iff.mp e)).symm
theorem aDg:Slot "tuple" "__lt__" "tuple.__lt__" :=.of (owner:="tuple") (n:="__lt__") (by rw[eg,dq];kernel_rfl) (by decide+kernel) (by decide+kernel) (by decide+kernel)
  (by first |exact .inl (by decide+kernel) |exact .inr (by decide+kernel)) (by rw[ir];kernel_rfl)
theorem lt_mat{K:r3}(a:KMx C K)(hu:A.units<cLine)(X:K.In s.heap)(p:s.heap.get? x=ao (tI (.int i t) r k n D))(l:s.heap.get? y=ao (tI (.int j u) o q m B))(b:i≠j)(h:Q (decide (i<j)) s):bI C.M A (keyLt' oneType' (.ref x) (.ref y)) Q E s:=by
 have tx:nj C.M s.heap (si (.ref x)) (.ref aF):=(Looks.ld p).andThen .now
 have w:nj C.M s.heap (si (.ref y)) (.ref aF):=(Looks.ld l).andThen .now
 have F:=lp (M:=C.M) X a.lt
 have d:nj C.M s.heap (sr (.ref x) (.type "tuple")) be:=tx.andThen (tO X a.tup)
 have c:nj C.M s.heap (sr (.ref y) (.type "tuple")) be:=w.andThen (tO X a.tup)
 rw[keyLt'_oneType,oneLt'_eq]
 refine zzB (wpAny_cRoomFor hu ?_)
 have e:bI C.M A (call (.builtin "tuple.__lt__") [.ref x,.ref y]) (λv s'=>v= .bool (decide (i<j))/\s'=s) E s:=by
  refine jh (jk (by decide+kernel:vq "tuple.__lt__" =be) (by exact lH ⋯:ri rk "tuple.__lt__" =ao Builtin.«tuple.__lt__») (sj (by decide+kernel:oh "tuple.__lt__" =ao .slot) (by decide+kernel:splitId "tuple.__lt__" =ao ("tuple","__lt__")) d (by delta rE;kernel_rfl) ?_))
  show bI _ _ (do
   if !(<-sr (.ref y) (.type "tuple")) then return<-ret .notImplemented
   let f<-Builtin.Tuple.tupleItemsOf (.ref x)
   let g<-Builtin.Tuple.tupleItemsOf (.ref y)
   for (x,y) in f.toList.zip g.toList do
    if !(<-eqBool x y) then
     rule "tuple.compare.by-the-first-pair-that-differs";return<-ret (<-richCompare .Lt x y)
   ret (Builtin.Tuple.tupleCompareSizes .Lt f.size g.size)) _ _ s
  refine zzB (c.here (rwL (cc (by decide)) (zzB (zzB (gu p rfl (zzP (zzB (zzB (gu l rfl (zzP (?_:bI _ _ (forIn [(Value.int i t,Value.int j u),(r,o),(k,q)] _ _ >>=_) _ _ s)))))))))))
  rw[jo]
  exact zzB (zzB (zzB (wpAny_eqBool_int (rwL (cj (by simpa using b)) (zzB (pY (zzB (lt_int (zzB (zzP (zzP (zzP (zzP ⟨rfl,rfl⟩)))))))))))))
 refine zzB ?_
 delta callSpecialIfBound? bindSpecialIfBound?;refine cb (zzB (zzB (zzB (tx.here (F.here (zzB (wpAny_askSetting (ifb (Looks.of_pure (M:=C.M) (h:=s.heap) (aDg.bind (.ref x))) (zzB (fg e ?_ λG G z=>z))))))))))
 rintro v s' ⟨rfl,rfl⟩
 exact zzP (oy h)
def fT:V->Int | .mat i _ _=>i |_=>0
def aAr:V->cw | .mat _ _ _=>be |_=>aL
def okSort(vs:aq V):Prop:=(∀ v∈vs,aAr v=be)/\(vs.Pairwise λa b=>fT a≠fT b)/\vs.length<64
theorem VRs.map_getD(rs:VRs ρ h c vs):∀ a:aq Nat,(∀ i∈a,i<c.length)->VRs ρ h (a.map λi=>c.getD i Value.none) (a.map λi=>vs.getD i V.none):=λn=>by
 induction n with
 |nil=>
  exact λq=>.nil
 |cons i a e=>
  intro d
  have b:i<vs.length:=by exact rwR rs.length (d i (.head _))
  refine xEA (rs.get (cg b)) λu hu f=>?_
  refine .cons ?_ (e λj l=>d j (.tail _ l))
  have g:c.getD i Value.none=u:=by rw[c4,hu];rfl
  have k:vs.getD i V.none=vs[i]:=by rw[c4,cg b];rfl
  exact(rwL g (rwL k f):VR ρ h (c.getD i Value.none) (vs.getD i V.none))
theorem v7{a:α->Int}:∀ {vs:aq α},vs.length<2->isort a vs=vs
 | [],_=>rfl
 | [v],_=>rfl
 |_::_::t,h=>ca h (Nat.not_lt.mpr (mx 2 t.length))
inductive MatQ(h:jy):bz->Int->Prop
 |mk {a:dw}{i:Int}{t:Tok}{x2 x3:bz}{n:Nat}{dd:bn dw} (g:h.get? a=ao (tI (.int i t) x2 x3 n dd)):MatQ h (.ref a) i
theorem mat_q(r:VR ρ h u v)(b:aAr v=be):MatQ h u (fT v):=by
 cases v with
 |mat i j k=>
  obtain⟨a,n,t,c,w,d,rfl,g⟩:=r.inv
  exact .mk g
 |_=>exact ca b Bool.false_ne_true
theorem yH{b:aq bz}(rs:VRs ρ h b vs)(c:∀ v∈vs,aAr v=be)(a:q<vs.length):MatQ h (b.getD q Value.none) (fT (vs.getD q V.none)):=by
 refine xEA (rs.get (cg a)) λu hu d=>?_
 exact rwL c4 (rwL hu (rwL c4 (rwL (cg a) (mat_q d (c vs[q] (List.getElem_mem a))))))
theorem ord_f{f:Nat->Int}(c:∀ a b,a<b->b<n->f a≠f b):Ord n (λa b=>decide (f a<f b)) where
 tr:=λx y z e g=>bp (Int.lt_trans (cn e) (cn g))
 tot:=λx y j i d=>(Nat.lt_or_gt_of_ne d).elim (λq=>(Int.lt_or_gt_of_ne (c x y q i)).imp bp bp) λq=>(Int.lt_or_gt_of_ne (c y x q j)).symm.imp bp bp
 asy:=λx y h=>bw (lr.mpr (ip (cn h)))
theorem aI4{vs:aq V}(e:vs.Pairwise λa b=>fT a≠fT b):Ord vs.length (λa b=>decide (fT (vs.getD a V.none)<fT (vs.getD b V.none))):=ord_f λa b c d=>by
  exact rwL c4 (rwL c4 (rwL (cg d) (rwL (cg (A53 c d)) (iy.mp e a b (A53 c d) d c))))
set_option tactic.hygienic true in
theorem vH(S:Sim C H ρ s)(U:ρ[i]? =ao l)(hH:H[i]? =ao (.list vs))(t:vs.length<64)(kd:∀ {f:jy}{G:aq bz}{Q:SortKind->bv->Prop},2<=G.length->(∀ b o,C.base.heap.get? b=ao o->f.get? b=ao o)->VRs ρ f G vs->Q κ {s with heap:=f}->bI C.M A (keyKind' G.toArray) Q NoE {s with heap:=f})(ax:∀ {f:jy}{G:aq bz}{Q:cw->bv->Prop}{p q:Nat},(∀ b o,C.base.heap.get? b=ao o->f.get? b=ao o)->VRs ρ f G vs->p<vs.length->q<vs.length->p≠q->Q (R p q) {s with heap:=f}->bI C.M A (keyLt' κ (G.getD p Value.none) (G.getD q Value.none)) Q NoE {s with heap:=f})(O:Ord vs.length R)(sh:vs.length<2->ws=vs)(wl:ws.length=vs.length)(out:∀ p,Pm vs.length p->Sd R p vs.length->(p.toList.map λi=>vs.getD i V.none)=ws)(h:∀ s',Sim C (H.set i (.list ws)) ρ s'->Nx ρ W s ρ s'->P (.done (.ret .none)) s'):bI C.M A (Builtin.«list.sort» ⟨[.ref l.a],[]⟩) P NoE s:=by
 have y:=(List.getElem?_eq_some_iff.mp hH).1
 refine k7 (S.objs i _ l hH U) λg1 g2 c n hx rs=>?_
 have g:=rs.length
 have stA:=mC.put (k:=s.toks) S ⟨U,g1,g2,hH,hx,rs⟩ (λ_=> #[]) (vs':=[]) .nil
 rw[list_sort_plain]
 have ho:=hx
 refine zzB (listItems_at ho rfl (zzB (rW ho rfl ?_ (by exact rwL dx (A48 g t)) (hN _))))
 obtain⟨e1,T⟩:∃ e1,(s.heap.update l.a (Obj.mapSeq λ_=>(#[]:iz bz))).get? l.a=ao (ml "list" #[] e1):=⟨_,ny ho λ_=> #[]⟩
 refine zzB (vm T rfl (zzB (wpAny_newTuple (zzB (ui (cb ?_) (hN _))) (by rw[dx];simp;exact A48 g t))))
 let f:jy:=((s.heap.update l.a (Obj.mapSeq λ_=>(#[]:iz bz))).push (ml "tuple" c.toList.toArray 0)).push (ml "list" #[] 0)
 have kp:∀ b o,(s.heap.update l.a (Obj.mapSeq λ_=>(#[]:iz bz))).get? b=ao o->f.get? b=ao o:=λb o e=>Heap.get?_push_of_some _ (Heap.get?_push_of_some _ e)
 have X:Sim C (H.set i (.list [])) ρ {s with heap:=f}:=stA.1.extS kp
 have N3:Nx ρ W s ρ {s with heap:=f}:=(stA.2 W).trans (.ext kp)
 have x:=kp _ _ T
 refine(?_:bI C.M A _ P NoE {s with heap:=f})
 dsimp only
 have v:=rs.mono (cy _) N3.imm
 have L:∀ (out:iz bz),VRs ρ f out.toList ws->out.size<=uR/\P (.done (.ret .none)) {s with heap:=f.update l.a (Obj.mapSeq λ_=>out)}:=by
  refine λout ro=>(k7 (X.objs i _ l (ef y) U) λk1 k2 az n3 as K=>?_)
  have st:=mC.put (k:=s.toks) X ⟨U,k1,k2,(ef y),as,K⟩ (λ_=>out) ro
  refine⟨by rw[dx];exact zzM3 0x4950820820f69028a811eaa411c283d07da00007 [vs.length,out.size,ws.length] ⋯ t ro.length wl,h _ ?_ (N3.trans (st.2 W))⟩
  have:=st.1
  rw[qw]at this
  exact this
 by_cases J:c.size<2
 ·rw[cj J,cj J]
  refine zzB (zzP ?_)
  rw[StateT.run_pure]
  refine zzB (zzP ?_)
  dsimp only
  refine xA (L c (by exact rwL (sh (g▸J)) v)) λf1 f2=>zzB (vm x rfl ?_)
  rw[(by
   intro c
   apply Array.toList_inj.mp
   exact rwL Array.toList_map (rwL Array.toList_zip (List.map_snd_zip (c5 _))):∀(c:iz bz),(arrOf (SortSt.mk' general' (c.zip c) #[] 7 none)).map (·.2)=c)]
  refine zzB (rW x rfl ?_ (hN _) (lw f1))
  simp only[bne_self_eq_false,iu,mq]
  exact zzP f2
 ·rw[cc J,cc J]
  have B:2<=c.toList.length:=by simp;exact zzM1 0x5a02f40a02f41f68000107 [c.size] ⋯ J
  refine rwL (by simp:c=c.toList.toArray) (zzB (kd B X.keep v ?_))
  have ay:SortSt.mk' κ (c.toList.toArray.zip c.toList.toArray) #[] 7 none=kas_st κ (ud c.toList) (List.toArray (List.range c.toList.length)):=by
   have e:=kas_range (ud c.toList)
   rw[pairsOf_size]at e
   show SortSt.mk' κ (ud c.toList) #[] 7 none=SortSt.mk' κ ((List.toArray (List.range c.toList.length)).map (kas_item (ud c.toList))) #[] 7 none
   rw[e]
  have u:c.toList.length=vs.length:=by simp [g]
  have ar:(kas_sort c.toList.length).kasWp (kas_cmp C.prog C.w A κ (ud c.toList)) (λp s'=>(Pm vs.length p/\Sd R p vs.length)/\s'= {s with heap:=f}) {s with heap:=f}:=by
   rw[u,<-kas_ask_eq]
   exact PW.wp (I:=λs'=>s'= {s with heap:=f}) (λi j D s' hi hj aw F hD=>(rwL F (ax X.keep v hi hj aw (hD _ rfl)))) (λp s' hp F=>⟨hp,F⟩) ((by
    delta kas_sort
    refine PW.bind ((aHc O ⟨Array.Perm.refl _⟩ (zzM2 0x96907d029a011e80bd007 [c.toList.length,vs.length] ⋯ B u)).mono λr z=>xAAA z λa b d e=>?_)
    split
    ·rename_i h
     exact rwL (A123 b) (aHs O _ r.1 a e (zzM1 0xa544a68a41a0006907da00007 [r.fst,vs.length] ⋯ h))
    ·rename_i h
     exact⟨a,(rwR (A125 d h) e)⟩)) _ rfl
  have au:=kas_runs (E:=NoE) (Q:=λ_ m s'=>∃ p:iz Nat,p.size=c.toList.length/\arrOf m=p.map (kas_item (ud c.toList))/\failedOf m=none/\(Pm vs.length p/\Sd R p vs.length)/\s'= {s with heap:=f})
   B (by exact rwL u t) (λp' m s' a1 a2 a3 a4=>⟨p',a1,a2,a3,a4⟩) ar
  refine zzB (fg (rwL ay au) ?_ λ_ _ e=>e)
  rintro ⟨⟨⟩,m⟩ s' ⟨p,hp,Y,hf,⟨hP,hS⟩,rfl⟩
  have N:(arrOf m).map (·.2)=List.toArray (p.toList.map λi=>c.toList.getD i Value.none):=by
   apply Array.toList_inj.mp
   rw[Y,Array.map_map,Array.toList_map]
   exact lI λi _=>by show(kas_item (ud c.toList) i).2=_;rw[kas_item_eq]
  have Z:∀ i∈p.toList,i<c.toList.length:=λi hi=>by
   rw[u];simpa using ((by simpa using hP.pm.toList:p.toList.Perm (List.range vs.length)).mem_iff.mp hi)
  refine xA (L (List.toArray (p.toList.map λi=>c.toList.getD i Value.none)) (by
   have:=v.map_getD p.toList Z
   rw[out p hP hS]at this
   simpa using this)) λf1 f2=>?_
  refine zzB (vm x rfl (rwL N (zzB (rW x rfl ?_ (hN _) (lw f1)))))
  rw[hf]
  simp only[bne_self_eq_false,iu,mq]
  exact zzP f2
theorem aB7{K:r3}(v:KMx C K)(hu:A.units<cLine)(S:Sim C H ρ s)(J:ρ[i]? =ao l)(R:H[i]? =ao (.list vs))(t:okSort vs)(h:∀ s',Sim C (H.set i (.list (isort fT vs))) ρ s'->Nx ρ W s ρ s'->P (.done (.ret .none)) s'):bI C.M A (Builtin.«list.sort» ⟨[.ref l.a],[]⟩) P NoE s:=xAA t λhm y r=>have O:=aI4 y
 vH (κ:=oneType') S J R r (λhv2 _ rs q=>kas_kind hv2 ((λu hu=>by
   refine xE (nq hu) λq w=>?_
   have m:=yH rs hm (rs.length▸(List.getElem?_eq_some_iff.mp w).1:q<vs.length)
   rw[c4,w]at m
   cases m with
   |mk g=>exact(Looks.ld g).andThen .now)) (by decide) (by decide) q)
  (λ{Z D Q p q} N rs f d b o=>by
   have c:fT (vs.getD p V.none)≠fT (vs.getD q V.none):=λe=>(O.tot p q f d b).elim (λz=>ca e (Int.ne_of_lt (cn z))) λz=>ca e.symm (Int.ne_of_lt (cn z))
   have n:=yH rs hm f
   have u:=yH rs hm d
   revert n u c o
   generalize D.getD p Value.none=X
   generalize D.getD q Value.none=U
   generalize fT (vs.getD p V.none)=Y
   generalize fT (vs.getD q V.none)=T
   intro o c n u
   cases n with
   |mk F=>cases u with
    |mk E=>exact lt_mat v hu (v.toK.mem.keeps N) F E c o) O v7 (b5 fT vs).length_eq (λp x L=>(by
     refine kD ?_ ?_ (qC y)
     ·have k:=by simpa using x.pm.toList
      have B:(List.range vs.length).map (λi=>vs.getD i V.none)=vs:=by
       refine ql (by simp) λi k B=>?_
       simp at k
       simp [k]
      exact (B▸(k.map (λi=>vs.getD i V.none))).trans (b5 fT vs).symm
     ·delta StSd
      rw[ja,iy]
      intro i j f d b
      simp only[Array.length_toList]at f d
      have:=L i j b (A118 d x.sz)
      have G:gt p i=p[i]:=by delta gt;simp [Array.getD,f]
      have I:gt p j=p[j]:=by delta gt;simp [Array.getD,d]
      rw[G,I]at this
      simpa using this)) h
def aG6(f:EF):EF:=λlo H Q=>f lo H λa H1=>Lf a.rf λi=>Lf (H1[i]?.bind MO.own) λvs=>okSort vs/\Q .none (H1.set i (.list (isort fT vs)))
theorem EV.sort{K:r3}(t:KMx C K){b:Pos}(E:EV C (r+1) env o f)(D:fM env o "sort" b pos []):EV C (r+1) env (.Call (.Attribute o "sort" b) [] [] pos) (aG6 f):=λA s ρ H lo Q d S F q=>oK E D PySem.F.slot_list_sort PySem.F.type_list_sort d S F q (λv H1 q=>q.elim λi c q=>q.elim λvs y M=>⟨i,vs,c,lB y⟩) λ{s1 I l i vs J n H1} G m O q=>by
  refine q.elim λi' c q=>cyS c λzq=>?_;subst zq
  refine q.elim λws B q=>?_
  obtain rfl:=O.same B
  refine lJ rfl cR (wmN (kQ EVs.nil ⟨.inl rfl,λM=>rfl⟩ d G (F.nx m) (Q:=λvs H'=>vs= []/\H'=H1) ⟨rfl,rfl⟩) λa s2 p=>?_)
  obtain⟨ps,L⟩:=a
  obtain⟨e,S2,k,rs,w,z⟩:=p
  subst e
  subst w z
  cases rs
  exact⟨S2.keep,xEE (jM S2 (aT k.pre O.g) O.h) λxs n j=>e7 PyProof.Rows.slot_list_sort ⟨_,j.x,rfl⟩ PyProof.Rows.entry_list_sort (aB7 t (zzM1 0x149d6cf41f41f68000007ea0f41f69001a3ea00007 [A.units,r] ⋯ d.2.2:A.units+1<9900) S2 j.g O.h q.1 λs3 u v=>⟨.none,rfl,u,(m.trans k).trans v,.none,q.2⟩) (PyProof.Rows.args_list_sort _)⟩
theorem SV.doc(a:qi env=aL)(hs:qz (.Constant (.str x) k p) none pos.line env=pure aL):SV C r env (.Expr (.Constant (.str x) k p) pos) (sK .next):=SV.expr EV.str a hs
theorem OpR.iadd:OpR C r (inplaceOp .Add) s9:=OpR.i2 λq q k=>PySem.AutoIntOps.iadd_0 (k _ _ (.int _ _))
theorem Room.le{a b:Nat}(h:ble a b=be)(d:Room b A):Room a A:=by
 have:=io h
 exact xAA d λh1 c e=>⟨h1,zzM2 0xaffd5f3da0afaa00057cf692bea80007a68007 [a,b,A.depth] ⋯ this c,zzM2 0x2bfffffffffc7ea0f68068faa0001fa83da41a3ea80007a68007 [a,b,A.units] ⋯ this e⟩
theorem CV.lift{a b:Nat}(h:CV C a f g)(q:ble a b=be):CV C b f g:=⟨h.keep,λhr S rs e=>h.call (hr.le q) S rs e⟩
noncomputable abbrev AnyT:=∀ {α:Type} (as:iz α),(α->cw)->optParam Nat 0->optParam Nat as.size->cw
def anyL:AnyT:=λ{α} as p i j=>match beq i 0,beq j as.size with
 |true,be=>as.toList.any p
 |_,_=>as.any p i j
theorem holdT{P:Prop}(_:P):s7:=trivial
set_option maxHeartbeats 1000000 in
@[irreducible] noncomputable def tnG: {G:AnyT->vr // PySem.W.Fast.tw4202317264376624991=G @Array.any.{0}}:=let G:AnyT->vr:=_
 let u:s7:=holdT (P:=PySem.W.Fast.tw4202317264376624991=G @Array.any.{0}) (by
  delta PySem.W.Fast.tw4202317264376624991
  generalize @Array.any.{0}=A
  exact rfl)
 ⟨G,@Eq.refl vr PySem.W.Fast.tw4202317264376624991⟩
open PySem.Sem (wp)
noncomputable abbrev Ev(α:Type):=Pos->BT->Nat->Nat->bn (Except bz α×Pos×BT×Nat×Nat)
noncomputable abbrev Cf:=Ctx->Pos->BT->Nat->Nat->bn (qs×BT×Nat×Nat)
def evS(cf:Cf)(S:Setting)(Γ:Ctx)(t:Sem α):Ev α:=@Sem.rec α (λb=>Ev α)
  (λa p T n k=>ao (.ok a,p,T,n,k))
  (λe p T n k=>ao (.error e,p,T,n,k))
  (λb b b b b=>none)
  (λb b b b b=>none)
  (λb b ih p T n k=>ih () p T n k)
  (λq b ih b T n k=>ih () q T n k)
  (λa b b ih p T n k=>bif blt a n then(T.get a).bind λo=>(alive o).bind λo'=>ih o' p T n k else none)
  (λa b f b ih p T n k=>bif blt a n then(T.get a).bind λo=>(alive o).bind λb=>ih () p (T.set a f) n k else none)
  (λo b ih p T n k=>bif ((T.ins n o).get n).isSome then ih n p (T.ins n o) (n+1) k else none)
  (λa b ih p T n k=>bif blt a n then(T.get a).bind λo=>ih (alive o) p T n k else ih none p T n k)
  (λb b ih p T n k=>ih () p T n k)
  (λb b b b b b b=>none)
  (λb ih p T n k=>ih k p T n (k+1))
  (λb ih p T n k=>ih S p T n k)
  (λb b b b b b b b=>none)
  (λb b b b b b b b=>none)
  (λc h b b b ih p T n k=>(cf (Γ.enter c h p) p T n k).bind λy=>ih y.1 p y.2.1 y.2.2.1 y.2.2.2)
  (λown b ih p T n k=>ih (if own then Γ.own else Γ.handled) p T n k)
  (λb b b b b b b=>none)
  (λb b b b b b b=>none)
  (λb b b b b b b b b=>none)
  (λb b b b b b b b b=>none)
  (λb ih p T n k=>ih ((Γ.code,p)::Γ.below) p T n k)
  (λb b b b b b b=>none)
  (λb ih p T n k=>ih 0 p T n k)
  (λb b b b b b b b b b=>none) t
section
variable(life:Life)(gens:iz ow)(drawn:Drawn)(os:su)
def ab(T:BT)(n k:Nat):bv:=⟨sv T n life,gens,drawn,k,os⟩
end
def Ph(life:Life)(gens:iz ow)(drawn:Drawn)(os:su){α:Type}(Q:α->Pos->bv->Prop)(E:bz->Pos->bv->Prop):bn (Except bz α×Pos×BT×Nat×Nat)->Prop
 |some (.ok a,p,T,n,k)=>Q a p (ab life gens drawn os T n k)
 |some (.error e,p,T,n,k)=>E e p (ab life gens drawn os T n k)
 |none=>fm
def PhC(life:Life)(gens:iz ow)(drawn:Drawn)(os:su)(R:qs->bv->Prop):bn (qs×BT×Nat×Nat)->Prop
 |some (r,T,n,k)=>R r (ab life gens drawn os T n k)
 |none=>fm
theorem ob{a b:Type}{P:bn b->Prop}(c: ¬P none){o:bn a}{f:a->bn b}(h:P (o.bind f)):∃ y,o=ao y/\P (f y):=by
 cases o with
 |none=>exact ca h c
 |some y=>exact⟨y,rfl,h⟩
theorem obb{a:Type}{P:bn a->Prop}(c: ¬P none){b:cw}{x:bn a}(h:P (bif b then x else none)):b=be/\P x:=by
 cases b with
 |false=>exact ca h c
 |true=>exact⟨rfl,h⟩
theorem aG0(M:ux)(life:Life)(gens:iz ow)(drawn:Drawn)(os:su)(r:∀ {d p T n k R},PhC life gens drawn os R (u d p T n k)->wpCode M d R p (ab life gens drawn os T n k))(t:Sem α):∀ {Q:α->Pos->bv->Prop}{E:bz->Pos->bv->Prop}{p T n k},Ph life gens drawn os Q E (evS u ⟨M.prog,M.w.params⟩ d t p T n k)->wp M d t Q E p (ab life gens drawn os T n k):=by
 induction t with
 |pure a=>intro Q E p T n k h;exact h
 |raise e=>intro Q E p T n k h;exact h
 |unsupported |finish |register |choose |os |genState |newGen |resume | «yield» |fork |await=>intro Q E p T n k h;exact h.elim
 |rule _ k b=>intro Q E p T n k h;exact b () h
 | «at» q k b=>intro Q E p T n k h;exact b () h
 |point _ k b=>intro Q E p T n k h;exact b () h
 |ask k b=>intro Q E p T n k h;exact b _ h
 |thread k b=>intro Q E p T n k h;exact b _ h
 |stack k b=>intro Q E p T n k h;exact b _ h
 |handled own k b=>intro Q E p T n k h;exact b _ h
 |fresh k b=>intro Q E p T n k h;exact b _ h
 |load a m k b=>
  intro Q E p T n j h
  exact xA (obb id h) λhb h=>xEA (ob id h) λo i h=>xEA (ob id h) λo' s h=>⟨o',(abs_get (io hb) i).trans s,b o' h⟩
 |update a m f k b=>
  intro Q E p T n j h
  exact xA (obb id h) λhb h=>xEA (ob id h) λo i h=>xEA (ob id h) λo' s h=>⟨by show((sv T n life).get? a).isSome=be;rw[abs_get (io hb) i,s];rfl,(rwR (absHeap_set i) (b () h))⟩
 |alloc o k b=>
  intro Q E p T n j h
  refine xA (obb id h) λhb h=>?_
  show wp M d (k (sv T n life).objs.size) _ _ p {ab life gens drawn os T n j with heap:=(sv T n life).push o}
  rw[absHeap_size,<-absHeap_ins hb]
  exact (b n h)
 |loadIfAlive a k b=>
  intro Q E p T n j h
  show wp M d (k ((sv T n life).get? a)) _ _ p _
  revert h
  refine(?_:Ph life gens drawn os Q E (bif blt a n then _ else _)->_)
  cases hb:blt a n with
  |false=>
   exact λh=>(rwL (abs_get_none (λq=>by cases ((show blt a n=be from Nat.ble_eq_true_of_le q)▸hb))) (b _ h))
  |true=>
   exact λh=>(xEA (ob id h) λo i h=>rwL (abs_get (io hb) i) (b _ h))
 |call c x g l k b=>
  intro Q E p T n j h
  exact r (xEA (ob id h) λy v h=>rwL v (b _ h))
def evC(den:Code->Sem Fin)(S:Setting)(f:Nat):Cf:=@Nat.rec (λq=>Cf) (λq q q q q=>none) (λq rec Γ p T n k=>match evS rec S Γ (den Γ.code) p T n k with
  |some (.ok (.done fl),_,T',n',k')=>ao ((Except.ok fl:qs),T',n',k')
  |some (.ok (.again c),p',T',n',k')=>bif c.quiet then rec (Γ.goto c) p' T' n' k' else none
  |some (.error e,_,T',n',k')=>ao ((Except.error e:qs),T',n',k')
  |none=>none) f
theorem yS(M:ux)(life:Life)(gens:iz ow)(drawn:Drawn)(os:su):∀ (f:Nat){a R p T n k},PhC life gens drawn os R (evC M.den ⟨M.prog,M.w.params⟩ f a p T n k)->wpCode M a R p (ab life gens drawn os T n k):=λl=>by
 induction l with
 |zero=>
  intro _ _ _ _ _ _ h
  exact h.elim
 |succ f q=>
  intro a R p T n k h
  rw[wpCode_iff_wp]
  refine aG0 M life gens drawn os (λhq=>q hq) (M.den a.code) ?_
  revert h
  show PhC life gens drawn os R (match evS (evC M.den ⟨M.prog,M.w.params⟩ f) ⟨M.prog,M.w.params⟩ a (M.den a.code) p T n k with
   |some (.ok (.done fl),_,g,b,d)=>ao ((Except.ok fl:qs),g,b,d)
   |some (.ok (.again c),s,g,b,d)=>bif c.quiet then evC M.den ⟨M.prog,M.w.params⟩ f (a.goto c) s g b d else none
   |some (.error e,_,g,b,d)=>ao ((Except.error e:qs),g,b,d)
   |none=>none)->_
  cases evS (evC M.den ⟨M.prog,M.w.params⟩ f) ⟨M.prog,M.w.params⟩ a (M.den a.code) p T n k with
  |none=>exact False.elim
  |some y=>
   obtain⟨x,j,o,r,m⟩:=y
   cases x with
   |error e=>exact id
   |ok i=>cases i with
    |done fl=>exact id
    |again c=>
     intro h
     revert h
     exact λh=>(xA (obb id h) λhq h=>⟨hq,q h⟩)
def setDoc(D:Str):je->je
 | .ClassDef n b k (.Expr (.Constant (.str _) x q) q'::rest) d t s ts bi st p=>.ClassDef n b k (.Expr (.Constant (.str D) x q) q'::rest) d t s ts bi st p
 |x=>x
def setAt(D:Str):aq je->aq je
 |a::b::c::d::e::f::r=>a::b::c::d::e::setDoc D f::r
 |l=>l
def aH2(p:nk)(D:Str):nk:= {p with main:= {p.main with body:=setAt D p.main.body}}
def tn:vr:=tnG.1 @anyL
theorem tn_eq:Builtin.«type.__new__»=tn:=(PySem.W.Fast.te4202317264376624991).trans (tnG.2.trans (cu tnG.1 (by
 funext α c p i j
 delta anyL
 cases a:beq i 0 with
 |false=>rfl
 |true=>cases b:beq j c.size with
  |false=>rfl
  |true=>
   cases Nat.eq_of_beq_eq_true a
   cases Nat.eq_of_beq_eq_true b
   exact Array.any_toList.symm)))
def tbl(id:qr):bn vr:=match PySem.W.S.eqLit (PySem.code "type.__new__") id with
 |true=>ao tn
 |false=>PySem.W.Fast.tw14364793385576792824 id
def den:Code->Sem Fin:=PySem.W.Fast.tw11892475500146522536 tbl
def btOf(l:aq Obj):BT:=(l.zipIdx).foldl (λt x=>t.ins x.2 x.1) .nil
def bt0(P:dz):BT:=btOf [u7 P,boot_o_1 P,vy P,boot_o_3 P,vz P,boot_o_5 P,boot_o_6 P,boot_o_7 P,boot_o_8 P,boot_o_9 P,boot_o_10 P]
def Γ0:Ctx:=⟨.builtin "claim.caller" {},none,none,[],none⟩
def zL(p:nk)(w:jp):=evS (evC den ⟨p,w.params⟩ 3000) ⟨p,w.params⟩ Γ0 (pp p).cur default (bt0 w.params) 11 on
def Jn(t:Thread):Step->Prop
 | .halt (.done _) _=>through t=be
 |_=>s7
theorem Jn.ite{a b:Step}(c:Jn t a)(d:Jn t b):Jn t (if x=be then a else b):=by
 cases x with
 |true=>exact c
 |false=>exact d
theorem Jn.itp{c:Prop}[Decidable c]{a b:Step}(d:Jn t a)(e:Jn t b):Jn t (if c then a else b):=by
 by_cases h:c
 ·rw[cj h];exact d
 ·rw[cc h];exact e
theorem stepJ{den:Code->Sem Fin}:Jn t (step den p w s t):=by
 obtain⟨heap,b,i,toks,os⟩:=s
 obtain⟨cur,code,pos,stack⟩:=t
 cases cur with
 |pure a=>cases a with
  |again c=>trivial
  |done f=>cases stack with
   |nil=>exact Jn.ite trivial rfl
   |cons j d=>cases j<;>trivial
 |raise e=>cases stack with
  |nil=>exact Jn.ite trivial trivial
  |cons j d=>cases j<;>trivial
 |unsupported _=>trivial
 |finish e=>exact Jn.ite trivial trivial
 |rule _ k=>trivial
 | «at» p k=>trivial
 |load a _ k=>
  delta step;dsimp only
  cases heap.get? a<;>trivial
 |update a _ f k=>exact Jn.ite trivial trivial
 |alloc o k=>trivial
 |loadIfAlive a k=>trivial
 |point _ k=>trivial
 |register _ _=>trivial
 |fresh k=>trivial
 |ask k=>trivial
 |choose m n k=>exact Jn.itp trivial trivial
 |os q _ k=>trivial
 |call c h g l k=>trivial
 |handled own k=>trivial
 |newGen c k=>trivial
 |genState g k=>
  delta step;dsimp only
  cases b[g]? <;>trivial
 |resume g r l k=>
  delta step;dsimp only
  cases b[g]? with
  |none=>trivial
  |some x=>cases x with
   |fresh c=>cases r with
    |send v=>cases v<;>trivial
    |throw e=>trivial
   |_=>trivial
 |yield v y l u=>
  delta step;dsimp only
  cases splitAtGen stack<;>trivial
 |stack k=>trivial
 |fork _ _=>trivial
 |thread k=>trivial
 |await _ _ _ _ _=>trivial
theorem vB(A:s.asleep)(y:c.gens= #[])(h:Sem.wp (h9 p w) Γ0 (pp p).cur (λfin I s'=>fin= .done (.ret .none)/\s'=c) (λI I I=>fm) default s):∃ n t,schedN (vh rk) p w n (.single s (pp p))= .running (.single c t)/\through t=be:=by
 have h':Sem.wp (h9 p w) ⟨.builtin "claim.caller" {},none,none,[],none⟩ (pp p).cur
   (Sem.finPost (h9 p w) ⟨.builtin "claim.caller" {},none,none,[],none⟩ λr s'=>(r= .ok (.ret .none)/\s'=c)/\leftWithCleanup s'.gens=aL)
   (λe I s'=>((.error e:qs)= .ok (.ret .none)/\s'=c)/\leftWithCleanup s'.gens=aL) default s:=by
  refine Sem.wp_mono _ _ _ ?_ (λI I I x=>x.elim) _ _ h
  rintro fin q s' ⟨rfl,rfl⟩
  exact⟨⟨rfl,rfl⟩,by rw[y];decide+kernel⟩
 obtain⟨n,r,s',F,rfl,rfl⟩:=(wp_iff_halts _ _ _ _).mp h'
 refine cU (runNI_real (vh rk) p w F (outcomeOf_ends _)) λs'' z H G=>rwR (Shared.eq_of_forget_eq H y) (jB ((by
  intro den p w f s' n
  induction n with
  |zero=>intro s t h;cases h
  |succ n E=>
   intro s t h
   have u:=stepJ (den:=den) (p:=p) (w:=w) (s:=s) (t:=t)
   have j:=step_halt_same den p w s s' t (.done f)
   replace h:(match step den p w s t with | .go s' d=>runN den p w n s' d | .halt o s'=>.halted o s')=Run.halted (.done f) s':=h
   have g:∀ m,runN den p w (m+1) s t=(match step den p w s t with | .go s' d=>runN den p w m s' d | .halt o s'=>.halted o s'):=λm=>rfl
   revert h u j g
   cases step den p w s t with
   |go b i=>
    exact λhj j h g=>(jB (E b i h) λm d B l=>⟨m+1,d,(g m).trans B,l⟩)
   |halt o b=>
    intro u j h g
    cases h
    exact⟨0,t,cu (Run.running · t) (j rfl).symm,u⟩:∀{den:Code->Sem Fin}{p:nk}{w:jp}{f:ve}{s':bv}(n:Nat),∀ (s:bv) (t:Thread),runN den p w n s t= .halted (.done f) s'-> ∃ m d,runN den p w m s t= .running s' d/\through d=be) n s (pp p) z) λm d g l=>?_)
 have v:∀ k b,runN (vh rk) p w k s (pp p)≠ .halted (.unsupported "lifetime:generator-with-cleanup-left-suspended") b:=by
  intro k b D
  have a:=runN_mono (vh rk) p w n k s (pp p) _ _ z
  rw[vc,(runN_mono (vh rk) p w k n s (pp p) _ b D)]at a
  injection a with C _
  cases C
 exact⟨m,d,(schedN_eq_runN (vh rk) p w s (pp p) A ⟨G,v⟩ m).trans (cu Run.lift g),l⟩
def docS(p:nk):Str:=match (p.main.body.drop 5).head? with
 |some (PySem.Stmt.ClassDef _ _ _ body _ _ _ _ _ _ _)=>(docOf body).getD ⟨#[]⟩
 |_=>⟨#[]⟩
noncomputable abbrev pw:nk:=PySem.Challenge.pw_dm0053_07
def docL: {l:aq Char // docS pw=⟨(l.map Char.toNat).toArray⟩}:=⟨_,Fast.ofString_ofList _⟩
def docD:Str:=⟨(docL.1.map Char.toNat).toArray⟩
def pR:nk:=aH2 pw docD
theorem p_eq:pw=pR:=by
 unfold pR docD
 rw[<-docL.2]
 kernel_rfl
def stA(i:Nat):je:=(pw.main.body.drop i).headD (.Pass ⟨0,0,0,0⟩)
def inCls:je->aq je
 | .ClassDef _ _ _ body _ _ _ _ _ _ _=>body
 |_=>[]
def stB(i j:Nat):je:=((inCls (stA i)).drop j).headD (.Pass ⟨0,0,0,0⟩)
def fPar:je->Arguments
 | .FunctionDef _ a _ _ _ _ _ _ _ _=>a
 |_=>⟨[],[],none,[],[],none,[]⟩
def cI:je->aq je
 | .FunctionDef _ _ b _ _ _ _ _ _ _=>b
 |_=>[]
def fSco:je->qk
 | .FunctionDef _ _ _ _ _ _ s _ _ _=>s
 |_=>default
def wR(s:je):Str:=(docOf (cI s)).getD ⟨#[]⟩
noncomputable abbrev kE(P:dz)(n:Str)(t:Nat)(v:bz):vg:=⟨PyData.keyHash P n,.str n t,v⟩
def cOx(x y:Nat->bz)(z:Nat)(n q:Str)(t l a f r e:Nat):Obj:=⟨.type "code",none,.fields #[.str n t,.str q (t+1),.str "/claim/cut.py" (t+2),.int l 0,.int a 0,.int 0 0,.int 0 0,.int f 0,.ref r,.bool be,.int 181 0,.ref (r+1),.none,x r,y r,.ref (r+z),.int e 0,.int l 0,.str "/claim/cut.py" (e+1)],#[]⟩
def cO:Str->Str->Nat->Nat->Nat->Nat->Nat->Nat->Obj:=cOx (λr=>.ref (r+2)) (λr=>.ref (r+3)) 4
def cO0:Str->Str->Nat->Nat->Nat->Nat->Nat->Nat->Obj:=cOx (λq=>.none) (λq=>.none) 2
def fOx(m:bz)(n q:Str)(s:je)(d doc:bz)(an:bn Nat)(c:Nat):Obj:=⟨.type "function",none,.func {name:=n,qualname:=q,params:=fPar s,body:=.stmts (cI s),scope:=fSco s,globals:=3,closure:=[],defaults:=d,kwdefaults:=.none,doc:=doc,pyModule:=m,annotations:=an,code:=.ref c,closureTuple:=.none,builtins:=0},#[]⟩
def fO:Str->Str->je->bz->bz->bn Nat->Nat->Obj:=fOx (.str "cpy313.difflib" 194)
def o3(P:dz):Obj:=⟨(.type "dict"),none,(Data.dict #[kE P "__name__" 165 (.str "law_dm0053_07" 592),kE P "__doc__" 166 .none,kE P "__package__" 167 .none,kE P "__loader__" 168 (.builtin "__main__.__loader__#opaque"),kE P "__spec__" 169 .none,kE P "__annotations__" 170 (.ref 6),kE P "__builtins__" 171 (.ref 4),kE P "__file__" 173 (.str "/claim/cut.py" 172),kE P "__cached__" 174 .none,kE P "_wall" 193 (.ref 21),kE P "_tuplegetter" 252 (.ref 60),kE P "Match" 380 (.ref 135),kE P "_calculate_ratio" 388 (.ref 145),kE P "SequenceMatcher" 591 (.ref 242),kE P "_law_hunks" 599 (.ref 251),kE P "_law_merged" 620 (.ref 258),kE P "_law_marks" 626 (.ref 263),kE P "_law_runs" 632 (.ref 268),kE P "_law_cells" 638 (.ref 273),kE P "_law_told" 644 (.ref 278),kE P "_law_due" 650 (.ref 283),kE P "law" 656 (.ref 288)] 22),#[]⟩
def o81(P:dz):Obj:=cO "__new__" "Match.__new__" 274 29 4 3 76 281
def o82(P:dz):Obj:=fO "__new__" "Match.__new__" (stB 3 4) .none (.str "Create new instance of Match(a, b, size)" 283) none 81
def o88(P:dz):Obj:=cO "_make" "Match._make" 285 33 2 3 83 291
def o89(P:dz):Obj:=fO "_make" "Match._make" (stB 3 5) .none (.str "Make a new Match object from a sequence or iterable" 293) (ao 92) 88
def o91(P:dz):Obj:=⟨(.type "classmethod"),(ao 90),(Data.fields #[(.ref 89),(.bool aL)]),#[]⟩
def o134(P:dz):Obj:=⟨(.type "dict"),none,(Data.dict #[kE P "__module__" 260 (.str "cpy313.difflib" 194),kE P "__firstlineno__" 264 (.int 23 263),kE P "__doc__" 266 (.str "Match(a, b, size)" 265),kE P "__slots__" 268 (.ref 73),kE P "_fields" 272 (.ref 74),kE P "_field_defaults" 273 (.ref 75),kE P "__new__" 284 (.ref 136),kE P "_make" 306 (.ref 91),kE P "_replace" 317 (.ref 100),kE P "__replace__" 318 (.ref 100),kE P "__repr__" 326 (.ref 107),kE P "_asdict" 333 (.ref 114),kE P "__getnewargs__" 341 (.ref 121),kE P "__match_args__" 345 (.ref 122),kE P "a" 355 (.ref 124),kE P "b" 365 (.ref 127),kE P "size" 375 (.ref 130),kE P "__static_attributes__" 376 (.ref 132)] 2),#[]⟩
def o135(P:dz):Obj:=⟨(.type "type"),none,(Data.cls {name:="Match",bases:=[(.type "tuple")],mro:=[(.ref 135),(.type "tuple"),(.type "object")],ns:=134,qualname:="Match",hasDict:=aL,slotNames:=[],subclasses:=[],abstract:=aL,collection:=none,hasDel:=aL}),#[ao (.ref 65),none,ao (.str "Match" 253),ao (.str "Match" 261),ao .none,ao (.bool aL)]⟩
def o136(P:dz):Obj:=⟨(.type "staticmethod"),none,(Data.fields #[(.ref 82)]),#[]⟩
def o153(P:dz):Obj:=⟨(.type "tuple"),none,(Data.seq #[.none,(.str "" 404),(.str "" 405),(.bool be)] 0),#[]⟩
def o159(P:dz):Obj:=cO "__init__" "SequenceMatcher.__init__" 406 145 5 3 154 414
def o160(P:dz):Obj:=fO "__init__" "SequenceMatcher.__init__" (stB 5 1) (.ref 153) (.str (wR (stB 5 1)) 416) none 159
def o166(P:dz):Obj:=cO "set_seqs" "SequenceMatcher.set_seqs" 418 173 3 3 161 424
def o167(P:dz):Obj:=fO "set_seqs" "SequenceMatcher.set_seqs" (stB 5 2) .none (.str (wR (stB 5 2)) 426) none 166
def o173(P:dz):Obj:=cO "set_seq1" "SequenceMatcher.set_seq1" 428 184 2 3 168 433
def o174(P:dz):Obj:=fO "set_seq1" "SequenceMatcher.set_seq1" (stB 5 3) .none (.str (wR (stB 5 3)) 435) none 173
def o180(P:dz):Obj:=cO "set_seq2" "SequenceMatcher.set_seq2" 437 209 2 3 175 442
def o181(P:dz):Obj:=fO "set_seq2" "SequenceMatcher.set_seq2" (stB 5 4) .none (.str (wR (stB 5 4)) 444) none 180
def o187(P:dz):Obj:=cO "__chain_b" "SequenceMatcher.__chain_b" 446 236 1 3 182 461
def o188(P:dz):Obj:=fO "__chain_b" "SequenceMatcher.__chain_b" (stB 5 5) .none .none none 187
def o189(P:dz):Obj:=⟨(.type "tuple"),none,(Data.seq #[(.int 0 464),.none,(.int 0 465),.none] 0),#[]⟩
def o195(P:dz):Obj:=cO "find_longest_match" "SequenceMatcher.find_longest_match" 466 260 5 3 190 488
def o196(P:dz):Obj:=fO "find_longest_match" "SequenceMatcher.find_longest_match" (stB 5 6) (.ref 189) (.str (wR (stB 5 6)) 490) none 195
def o202(P:dz):Obj:=cO "get_matching_blocks" "SequenceMatcher.get_matching_blocks" 492 335 1 3 197 515
def o203(P:dz):Obj:=fO "get_matching_blocks" "SequenceMatcher.get_matching_blocks" (stB 5 7) .none (.str (wR (stB 5 7)) 517) none 202
def o209(P:dz):Obj:=cO "get_opcodes" "SequenceMatcher.get_opcodes" 519 383 1 3 204 530
def o210(P:dz):Obj:=fO "get_opcodes" "SequenceMatcher.get_opcodes" (stB 5 8) .none (.str (wR (stB 5 8)) 532) none 209
def o211(P:dz):Obj:=⟨(.type "tuple"),none,(Data.seq #[(.int 3 534)] 0),#[]⟩
def o217(P:dz):Obj:=cO "get_grouped_opcodes" "SequenceMatcher.get_grouped_opcodes" 535 430 2 35 212 548
def vV(P:dz):Obj:=fO "get_grouped_opcodes" "SequenceMatcher.get_grouped_opcodes" (stB 5 9) (.ref 211) (.str (wR (stB 5 9)) 550) none 217
def o241(P:dz):Obj:=⟨(.type "dict"),none,(Data.dict #[kE P "__module__" 396 (.str "cpy313.difflib" 194),kE P "__firstlineno__" 400 (.int 70 399),kE P "__doc__" 402 (.str docD 401),kE P "__init__" 417 (.ref 160),kE P "set_seqs" 427 (.ref 167),kE P "set_seq1" 436 (.ref 174),kE P "set_seq2" 445 (.ref 181),kE P "_SequenceMatcher__chain_b" 463 (.ref 188),kE P "find_longest_match" 491 (.ref 196),kE P "get_matching_blocks" 518 (.ref 203),kE P "get_opcodes" 533 (.ref 210),kE P "get_grouped_opcodes" 551 (.ref 218),kE P "ratio" 560 (.ref 225),kE P "quick_ratio" 567 (.ref 232),kE P "real_quick_ratio" 574 (.ref 239),kE P "__static_attributes__" 585 (.ref 240),kE P "__dict__" 587 (.ref 243),kE P "__weakref__" 589 (.ref 244)] 3),#[]⟩
def o242(P:dz):Obj:=⟨(.type "type"),none,(Data.cls {name:="SequenceMatcher",bases:=[(.type "object")],mro:=[(.ref 242),(.type "object")],ns:=241,qualname:="SequenceMatcher",hasDict:=be,slotNames:=[],subclasses:=[],abstract:=aL,collection:=none,hasDel:=aL}),#[none,none,ao (.str "SequenceMatcher" 389),ao (.str "SequenceMatcher" 397),ao (.builtin "object.__new__"),ao (.bool be)]⟩
def o250(P:dz):Obj:=cO0 "_law_hunks" "_law_hunks" 594 505 4 3 247 597
def o251(P:dz):Obj:=fOx (.str "law_dm0053_07" 592) "_law_hunks" "_law_hunks" (stA 7) .none .none none 250
def o257(P:dz):Obj:=cO "_law_merged" "_law_merged" 600 515 2 3 252 618
def o258(P:dz):Obj:=fOx (.str "law_dm0053_07" 592) "_law_merged" "_law_merged" (stA 8) .none .none none 257
def o262(P:dz):Obj:=cO0 "_law_marks" "_law_marks" 621 532 3 3 259 624
def o263(P:dz):Obj:=fOx (.str "law_dm0053_07" 592) "_law_marks" "_law_marks" (stA 9) .none .none none 262
def o267(P:dz):Obj:=cO0 "_law_runs" "_law_runs" 627 539 1 3 264 630
def o268(P:dz):Obj:=fOx (.str "law_dm0053_07" 592) "_law_runs" "_law_runs" (stA 10) .none .none none 267
def o272(P:dz):Obj:=cO0 "_law_cells" "_law_cells" 633 543 3 3 269 636
def o273(P:dz):Obj:=fOx (.str "law_dm0053_07" 592) "_law_cells" "_law_cells" (stA 11) .none .none none 272
def o277(P:dz):Obj:=cO0 "_law_told" "_law_told" 639 552 5 3 274 642
def o278(P:dz):Obj:=fOx (.str "law_dm0053_07" 592) "_law_told" "_law_told" (stA 12) .none .none none 277
def o282(P:dz):Obj:=cO0 "_law_due" "_law_due" 645 560 4 3 279 648
def o283(P:dz):Obj:=fOx (.str "law_dm0053_07" 592) "_law_due" "_law_due" (stA 13) .none .none none 282
def o287(P:dz):Obj:=cO0 "law" "law" 651 570 1 3 284 654
def o288(P:dz):Obj:=fOx (.str "law_dm0053_07" 592) "law" "law" (stA 14) .none .none none 287
def KL(P:dz):r3:=[(0,u7 P),(1,boot_o_1 P),(2,vy P),(4,vz P),(5,boot_o_5 P),(6,boot_o_6 P),(7,boot_o_7 P),(8,boot_o_8 P),(9,boot_o_9 P),(10,boot_o_10 P),(3,o3 P),(81,o81 P),(82,o82 P),(88,o88 P),(89,o89 P),(91,o91 P),(134,o134 P),(135,o135 P),(136,o136 P),(153,o153 P),(159,o159 P),(160,o160 P),(166,o166 P),(167,o167 P),(173,o173 P),(174,o174 P),(180,o180 P),(181,o181 P),(187,o187 P),(188,o188 P),(189,o189 P),(195,o195 P),(196,o196 P),(202,o202 P),(203,o203 P),(209,o209 P),(210,o210 P),(211,o211 P),(217,o217 P),(218,vV P),(241,o241 P),(242,o242 P),(250,o250 P),(251,o251 P),(257,o257 P),(258,o258 P),(262,o262 P),(263,o263 P),(267,o267 P),(268,o268 P),(272,o272 P),(273,o273 P),(277,o277 P),(278,o278 P),(282,o282 P),(283,o283 P),(287,o287 P),(288,o288 P)]
def endN:Nat:=289
def endK:Nat:=657
def finT(w:jp):BT:=(zL pR w).elim .nil λx=>x.2.2.1
def finP(w:jp):Pos:=(zL pR w).elim default λx=>x.2.1
theorem m6(r:ue R cl h vs (d::f) e):∃ v vs' bs c,vs=v::vs'/\e=bs++c/\ReadsW R cl h v d bs/\ue R cl h vs' f c:=by
 cases r with |cons a b=>exact⟨_,_,_,_,rfl,rfl,a,b⟩
theorem pM{a:aq dw}(r:ue R cl h vs [] a):vs= []:=by
 cases r;rfl
theorem pre63(b:l.bound=none)(a:l.most=ao 63)(h:(OpenLaw.pre l).holds [] {args:=[.list xs]}=be):xs.length<=63:=by
 have e:(OpenLaw.pre l).holds [] {args:=[.list xs]}= !decide ((63:Int)<(xs.length:Int)):=by
  unfold OpenLaw.pre
  rw[b,a]
  unfold WTm.holds
  rw[w_and (w_not (w_lt w_lit (w_len_list (w_arg rfl)))) w_lit]
  cases decide ((63:Int)<(xs.length:Int))<;>rfl
 rw[e]at h
 by_cases q:xs.length<=63
 ·exact q
 ·rw[show decide ((63:Int)<(xs.length:Int))=be from bp (zzM1 0x5a28101f41ffd002a01ffda00107 [xs.length] ⋯ q)]at h;cases h
def aDt(l:OpenLaw)(vs:aq bz):Sem Fin:=do match<-nsGet vF l.name with
   |some f=>do ret (<-PySem.call f vs)
   |none=>tB "claim.caller:no-such-global"
theorem y0{H:jy}{os:su}(S:l.bound=none)(y:l.most=ao 63)(T:H.isNs fu=be)(ki:H.nsMap fu l.name=ao (.ref fa))(walk:∀ (j:bv) (a:dw) (ns:aq Int) (q:aq Tok),(∀ b o,H.get? b=ao o->j.heap.get? b=ao o)->j.gens= #[]-> q.length=ns.length->ns.length<=63->j.heap.IsList a ((ns.zip q).map λx=>Value.int x.1 x.2).toArray->H.get? a=none-> bI (h9 l.prog w) vu (call (.ref fa) [.ref a]) (λv s'=>v= .bool be/\(∀ b o,j.heap.get? b=ao o->s'.heap.get? b=ao o)/\s'.os=j.os/\qc s'.gens) (λ_ _=>fm) j)(args:aq WData)(G:l.row.toRowW.claim.pre args=be)(C:WData.layableAll args=be)(ord:aq vg->aq vg)(u:∀ l,(ord l).Perm l):∃ vs j,layAllW [] (classAt H) w.params ord args ⟨H,#[],gh,k,os⟩=ao (vs,j)/\ bI (h9 l.prog w) vu (aDt l vs) (λfin s'=>∃ f,fin= .done f/\(l.row.toRowW.claim.Ends ⟨H,#[],gh,k,os⟩ args vs j (.ok f) s'/\s'.os=os/\qc s'.gens)) (λe s'=>l.row.toRowW.claim.Ends ⟨H,#[],gh,k,os⟩ args vs j (.error e) s'/\s'.os=os/\qc s'.gens) j:=by
 have hp:=cp.mp G
 refine bV (hasAllW_cons hp.1) λd s I K Q=>?_;subst I
 obtain rfl:=hasAllW_nil Q
 refine xEA (hasW_list K) λxs O U=>?_;subst O
 refine xE (ph.mp (layAllW_isSome (R:=[]) (cl:=classAt H) (P:=w.params) (ord:=ord) (λc X=>by cases X) [.list xs] l.row.toRowW.args ⟨H,#[],gh,k,os⟩ hp.1)) λz135 m=>?_;obtain⟨vs,j⟩:=z135
 have p:=layAllW_keeps _ _ _ m
 have A:=layAllW_rest _ _ _ m
 refine cU (reads_layAllW u _ _ _ m C j.heap (λ_ _ e=>e)) λas L J E=>⟨vs,j,m,o9 (m6 L) λv vs' Y cs kg kh W r2=>u8 ((by
  intro R cl h v xs as r
  cases r with |list K Q h3 h4=>exact⟨_,_,_,_,_,rfl,ce,K,Q,h3,h4⟩:∀{R:vd}{cl:Str->bn dw}{h:jy}{v:bz}{xs:aq WData}{as:aq dw}(r:ReadsW R cl h v (.list xs) as),∃ a o B n Y,v= .ref a/\a∈as/\h.get? a=ao o/\o.cls= .type "list" /\o.data= .seq B n/\ue R cl h B.toList xs Y) W) λa o kk n kj ev ha ho X Z hr=>bV ((by
   intro R cl h
   intro s
   induction s with
   |nil=>
    intro vs as r _
    exact⟨[],[],rfl,pM r,rfl⟩
   |cons d s ih=>
    intro vs as r U
    have h:=cp.mp (show(WShape.has R d .int && WShape.hasItems R s .int)=be from U)
    refine xE (hasW_int h.1) λi F=>?_;subst F
    refine o9 (m6 r) λv vs' Y cs M _ W r2=>rwL M ?_
    refine xE ((by
     intro R cl h v i as r
     cases r;exact⟨_,rfl⟩:∀{R:vd}{cl:Str->bn dw}{h:jy}{v:bz}{i:Int}{as:aq dw}(r:ReadsW R cl h v (.int i) as),∃ t,v= .int i t) W) λt D=>rwL D ?_
    exact bV (ih r2 h.2) λns q V e hd=>⟨i::ns,t::q,cu Nat.succ V,cu (Value.int i t::·) e,cu Nat.succ hd⟩:∀{R:vd}{cl:Str->bn dw}{h:jy},∀ {s:aq WData}{vs:aq bz}{as:aq dw},ue R cl h vs s as->WShape.hasItems R s .int=be-> ∃ (ns:aq Int) (q:aq Tok),q.length=ns.length/\vs=((ns.zip q).map λx=>Value.int x.1 x.2)/\s.length=ns.length) hr U) λns q V hv kd=>?_⟩
 have ev2:vs= [.ref a]:=kg.trans (by rw[ev,pM r2])
 refine rwL ev2 ?_
 have kf:ns.length<=63:=by
  exact rwR kd (pre63 S y hp.2)
 have hA:(H).get? a=none:=by
  cases hq:(H).get? a with
  |none=>rfl
  |some o'=>exact ca (Heap.lt_size hq) (Nat.not_lt.mpr ((J.2.2 a (kh▸List.mem_append_left _ ha)).1))
 have N:j.heap.Ns fu ((H).nsMap fu):=by
  exact iZ (Heap.Ns.of_isNs T) λo' es n' K Q=>⟨o',es,n',p _ _ K,Q⟩
 delta aDt
 refine zzB (wpAny_nsGet N (rwL ki (zzB (fg (walk j a ns q p A.1 V kf ⟨o,ho,X,n,by rw[Z,<-hv]⟩ hA) (λv s' g=>(xAAA g λz136 gk ke gg=>?_)) λ_ _ x=>x.elim))));clear g;subst z136
 refine zzP ⟨_,rfl,?_⟩
 have z:=GoodWG.laid (c:=l.row.toRowW.claim) rfl rfl (ident_freeW rfl rfl rfl) (ev2▸(⟨⟨ord,u,m⟩,L,J,E,p,A.1,A.2.2.1⟩:Laid [] w ⟨H,#[],gh,k,os⟩ j [.list xs] vs as)) ⟨.inl ⟨.bool be,.bool be,[],rfl,λ_=>rfl,.bool be,by kernel_rfl,λ_=>⟨.nil,λ_ h=>nomatch h⟩⟩,.of_keep gk,ke,gg⟩
 exact⟨z.1,z.2.1,z.2.2⟩
theorem yN{l:OpenLaw}{c:jp->jy}(R:l.writes=aL)(P:l.bound=none)(B:l.most=ao 63)(F:l.row.wellSaid=be)(A:l.row.toRowW.promised)(hb:l.prog.bare)(o1:opensWell l.prog=be)(e1:opening l.prog=plainProg l.prog.main.scope.names)(f1:∀ s,fenceModules? l.prog s=ao s)(r:∀ w os,Sem.wp (h9 l.prog w) Γ0 (pp l.prog).cur (λfin _ s'=>fin= .done (.ret .none)/\s'=⟨c w,#[],gh,k,os⟩) (λ_ _ _=>fm) default ⟨dy w.params,#[],gh,on,os⟩)(life:∀ w,(c w).life=(dy w.params).life)(g:∀ w b o,(dy w.params).get? b=ao o->b≠vF->(c w).get? b=ao o)(h:∀ w,∃ o n,(c w).get? vG=ao o/\o.data= .dict #[] n)(i:∀ w,(c w).isNs fu=be)(O:∀ w,ur l.prog (c w)=be)(lk:∀ w,vI (dy w.params) (c w)=be)(D:∀ w:jp,(dy w.params).isNs jN=be)(M:∀ w:jp,(dy w.params).bltView=uj)(N:∀ w,pq (c w))(S:∀ w,isTheDefsW l.prog (c w) l.name)(am:∀ w,(c w).nsMap fu l.name=ao (.ref fa))(walk:∀ (w:jp) (d:bv) (a:dw) (ns:aq Int) (ts:aq Tok),(∀ b o,(c w).get? b=ao o->d.heap.get? b=ao o)->d.gens= #[]-> ts.length=ns.length->ns.length<=63->d.heap.IsList a ((ns.zip ts).map λx=>Value.int x.1 x.2).toArray->(c w).get? a=none-> bI (h9 l.prog w) vu (call (.ref fa) [.ref a]) (λv s'=>v= .bool be/\(∀ b o,d.heap.get? b=ao o->s'.heap.get? b=ao o)/\s'.os=d.os/\qc s'.gens) (λ_ _=>fm) d):l.row.Holds:=by
 refine⟨F,A,⟨hb,o1,rfl⟩,xEA A λargs X h2=>⟨args,X,(cp.mp h2).1⟩,λw=>?_⟩
 refine aC7 ((by
  intro p e f w
  refine xEA (dr.mp (boot_plain w p.main.scope.names)) λs m u=>?_
  simp only[Prod.mk.injEq]at u
  exact⟨s,(AfterImport.of_importEnds (rwL uk (rwL e m))),u.1,u.2.1,u.2.2.1,u.2.2.2⟩:∀{p:nk}(e:opening p=plainProg p.main.scope.names)(f:∀ s,fenceModules? p s=ao s)(w:jp),∃ s,AfterRun (opening p) w s/\s.heap=dy w.params/\s.gens= #[]/\s.drawn=gh/\s.toks=on) e1 f1 w) λs₀ Q hh L hd ht=>⟨⟨s₀,Q⟩,λs' V=>?_⟩
 obtain rfl:s'=s₀:=AfterImport.unique V Q
 obtain⟨heap,an,Z,toks,os⟩:=s'
 dsimp only at hh L hd ht
 subst hh L hd ht
 have J:=AfterImport.life Q
 refine⟨_,f1 _,rfl,⟨c w,#[],gh,k,os⟩,((by
  intro p w H k os J r life g h i O lk D M N
  have m:=(by
   intro H h key
   refine jB h λo n X h2=>?_
   delta tW
   rw[X]
   dsimp only
   rw[h2]
   rfl:∀{H:jy}(h:∃ o n,H.get? vG=ao o/\o.data= .dict #[] n)(key:Str),tW H key=none) h
  refine⟨vB J rfl r,life,rfl,λb o U W=>g b o U λq=>W (.inl q),λkey v u=>?_,λkey=>.inl ((m key).trans ((by
   intro G H g j key
   cases m:tW G key with
   |none=>rfl
   |some v=>
    have:=j key
    unfold tW at m this
    cases C:G.get? vG with
    |none=>cases (C▸m)
    |some o=>
     rw[C]at m
     cases (((g _ _ C (by decide))▸this)▸m):∀{G H:jy}(g:∀ b o,G.get? b=ao o->b≠vF->H.get? b=ao o)(j:∀ key,tW H key=none)(key:Str),tW G key=none) g m key).symm),Pin.keysAreStrs_of i,λx t=>?_,N,λg L=>?_,names_of_bound O,laid_of_kept lk⟩
  ·rw[m]at u;cases u
  ·exact((by
    intro G H g t x
    unfold Heap.isNs at t
    cases C:G.get? jN with
    |none=>cases (C▸t)
    |some o=>
     delta builtinOf
     rw[g _ _ C (by decide),C]:∀{G H:jy}(g:∀ b o,G.get? b=ao o->b≠vF->H.get? b=ao o)(t:G.isNs jN=be)(x:Str),builtinOf H x=builtinOf G x) g D x).trans ((Pin.builtinOf_eq D x).trans (Heap.of_bltView D M x t))
  ·exact ca L (by simp):∀{p:nk}{w:jp}{H:jy}{k:Nat}{os:su}(J:Shared.asleep ⟨dy w.params,#[],gh,on,os⟩)(r:Sem.wp (h9 p w) Γ0 (pp p).cur (λfin _ s'=>fin= .done (.ret .none)/\s'=⟨H,#[],gh,k,os⟩) (λ_ _ _=>fm) default ⟨dy w.params,#[],gh,on,os⟩)(life:H.life=(dy w.params).life)(g:∀ b o,(dy w.params).get? b=ao o->b≠vF->H.get? b=ao o)(h:∃ o n,H.get? vG=ao o/\o.data= .dict #[] n)(i:H.isNs fu=be)(O:ur p H=be)(lk:vI (dy w.params) H=be)(D:(dy w.params).isNs jN=be)(M:(dy w.params).bltView=uj)(N:pq H),TopRan p w ⟨dy w.params,#[],gh,on,os⟩ ⟨H,#[],gh,k,os⟩) J (r w os) (life w) (g w) (h w) (i w) (O w) (lk w) (D w) (M w) (N w)),λn W=>?_,λx t=>(nomatch (show x∈([]:vd) from t)),λx t=>(nomatch (show x∈([]:vd) from t)),?_⟩
 ·obtain rfl:n=l.name:=by simpa [OpenLaw.row] using W
  exact S w
 refine ClaimW.callFrom_of_specG (tree:=aDt l) (Shared.asleep_of_life (life w) J) rfl λargs I E ord K=>jB (y0 (k:=k) (os:=os) P B (i w) (am w) (walk w) args I E ord K) λvs d q1 q2=>?_
 have no: ¬l.row.writes=be:=λq=>by rw[show l.row.writes=l.writes from rfl,R]at q;cases q
 exact⟨vs,d,q1,fg q2 (λfin s' y=>xEAAA y λf e g1 T Y=>⟨f,e,g1,T,Y,λq=>ca q no⟩) λe s' z=>xAA z λg1 T Y=>⟨g1,T,Y,λq=>ca q no⟩⟩
def H1(w:jp):jy:=sv (finT w) endN (dy w.params).life
set_option tactic.hygienic true in
theorem zE(w:jp):(KL w.params).In (H1 w):=by
 have g:∀ (K:r3) (T:BT) (n:Nat) (c:Life),(K.map λx=>(T.get x.1).bind alive)=K.map (λx=>ao x.2)->(K.all λx=>blt x.1 n)=be->K.In (sv T n c):=by
  intro K T n c
  induction K with
  |nil=>intro _ _ a o e;cases e
  |cons p r i=>
   obtain⟨b,x⟩:=p
   intro d f a o e
   simp only[jf,List.cons.injEq]at d
   simp only[List.all_cons,Bool.and_eq_true]at f
   simp only[List.lookup]at e
   split at e
   ·rename_i q
    refine cxS e ?_
    obtain rfl:=kb.mp q
    exact xEA (bt.mp d.1) λo' j h=>(abs_get (io f.1) j).trans h
   ·exact i d.2 f.2 a o e
 exact g _ _ _ _ (by kernel_rfl) (by kernel_rfl)
theorem aIq(w:jp)(os:su):Sem.wp (h9 pw w) Γ0 (pp pw).cur (λfin q s'=>fin= .done (.ret .none)/\s'=⟨H1 w,#[],gh,endK,os⟩) (λq q q=>fm) default ⟨dy w.params,#[],gh,on,os⟩:=by
 have h:=(by intro w;kernel_rfl:∀(w:jp),zL pR w=ao (.ok (.done (.ret .none)),finP w,finT w,endN,endK)) w
 unfold zL at h
 rw[<-(by
  delta den
  rw[(by
   funext id
   delta tbl
   rw[<-(congrFun (PySem.W.S.eqLit_eq "type.__new__" _ rfl) id)]
   by_cases e:id="type.__new__"
   ·subst e
    rw[(gy _)]
    rw[<-tn_eq]
    rw[uk]
    kernel_rfl
   ·rw[(m2.mpr e)]
    rw[uk,PySem.W.Fast.te14364793385576792824]:rk=tbl),PySem.W.Fast.te11892475500146522536]:vh rk=den),<-p_eq]at h
 have e:ab (dy w.params).life #[] gh os (bt0 w.params) 11 on=⟨dy w.params,#[],gh,on,os⟩:=by
  delta ab;rw[(by intro P;kernel_rfl:∀(P:dz),sv (bt0 P) 11 (dy P).life=dy P)]
 exact rwR e (aG0 (h9 pw w) (dy w.params).life #[] gh os (λhq=>yS (h9 pw w) (dy w.params).life #[] gh os 3000 hq) _ (rwL h ⟨rfl,rfl⟩))
theorem get3(w:jp):(H1 w).get? 3=ao (o3 w.params):=zE w _ _ ⋯
theorem old1(w:jp)(b:dw)(o:Obj)(h:(dy w.params).get? b=ao o)(c:b≠vF):(H1 w).get? b=ao o:=by
 have a:b<11:=Heap.lt_size h
 have K:=zE w
 match b,a,c with
 |0,_,_=>
  rw[(by kernel_rfl:(dy w.params).get? 0=ao (u7 w.params))]at h;exact cxS h (K _ _ ⋯)
 |1,_,_=>
  rw[(by kernel_rfl:(dy w.params).get? 1=ao (boot_o_1 w.params))]at h;exact cxS h (K _ _ ⋯)
 |2,_,_=>
  rw[(by kernel_rfl:(dy w.params).get? 2=ao (vy w.params))]at h;exact cxS h (K _ _ ⋯)
 |3,_,c=>exact ca rfl c
 |4,_,_=>
  rw[(by kernel_rfl:(dy w.params).get? 4=ao (vz w.params))]at h;exact cxS h (K _ _ ⋯)
 |5,_,_=>
  rw[(by kernel_rfl:(dy w.params).get? 5=ao (boot_o_5 w.params))]at h;exact cxS h (K _ _ ⋯)
 |6,_,_=>
  rw[(by kernel_rfl:(dy w.params).get? 6=ao (boot_o_6 w.params))]at h;exact cxS h (K _ _ ⋯)
 |7,_,_=>
  rw[(by kernel_rfl:(dy w.params).get? 7=ao (boot_o_7 w.params))]at h;exact cxS h (K _ _ ⋯)
 |8,_,_=>
  rw[(by kernel_rfl:(dy w.params).get? 8=ao (boot_o_8 w.params))]at h;exact cxS h (K _ _ ⋯)
 |9,_,_=>
  rw[(by kernel_rfl:(dy w.params).get? 9=ao (boot_o_9 w.params))]at h;exact cxS h (K _ _ ⋯)
 |10,_,_=>
  rw[(by kernel_rfl:(dy w.params).get? 10=ao (boot_o_10 w.params))]at h;exact cxS h (K _ _ ⋯)
 |b+11,a,_=>exact ca a (Nat.not_lt.mpr (mx 11 b))
theorem ns3(w:jp)(x:Str):(H1 w).nsMap fu x=(match (o3 w.params).data with | .dict a _=>nsFind a x |_=>none):=by
 unfold Heap.nsMap fu;rw[get3];rfl
theorem isn1(w:jp):(H1 w).isNs fu=be:=by
 unfold Heap.isNs fu;rw[get3];kernel_rfl
theorem nb1(w:jp):ur pw (H1 w)=be:=by
 delta ur;rw[isn1,(by
  intro w
  unfold Heap.nsKeys fu;rw[get3];rfl:∀(w:jp),(H1 w).nsKeys fu=(match (o3 w.params).data with
  | .dict a _=>a.toList.filterMap λe=>match e.key with | .str n _=>ao n |_=>none
  |_=>[]))];kernel_rfl
theorem lk1(w:jp):vI (dy w.params) (H1 w)=be:=by
 delta vI;rw[isn1];kernel_rfl
theorem ib1(w:jp):(dy w.params).isNs jN=be:=by kernel_rfl
theorem bv1(w:jp):(dy w.params).bltView=uj:=by kernel_rfl
theorem bm1(w:jp):pq (H1 w):=by
 refine⟨4,vz w.params,?_,zE w _ _ ⋯,by kernel_rfl,by kernel_rfl⟩
 rw[Pin.globalOf_eq (isn1 w),ns3];kernel_rfl
def law:Str:=Str.ofString "law"
theorem fa1(w:jp):(H1 w).nsMap fu law=ao (.ref 288):=by rw[ns3];kernel_rfl
theorem pin1(w:jp):isTheDefsW pw (H1 w) law:=by
 exact⟨288,o288 w.params,_,_,_,_,(Pin.globalOf_eq (isn1 w) _).trans (fa1 w),zE w _ _ ⋯,rfl,(by kernel_rfl:pw.theDef law=ao (fPar (stA 14),cI (stA 14),fSco (stA 14))),rfl,rfl,rfl,rfl,rfl,rfl,rfl,rfl,⟨.inl ⟨rfl,rfl⟩,[],rfl,.inl ⟨rfl,rfl⟩⟩⟩
theorem said5:OpenLaw.wellSaid PySem.Challenge.rw_dm0053_07=be:=by kernel_rfl
theorem head(walk:∀ (w:jp) (c:bv) (a:dw) (ns:aq Int) (d:aq Tok),(∀ b o,(H1 w).get? b=ao o->c.heap.get? b=ao o)->c.gens= #[]-> d.length=ns.length->ns.length<=63->c.heap.IsList a ((ns.zip d).map λx=>Value.int x.1 x.2).toArray->(H1 w).get? a=none-> bI (h9 pw w) vu (call (.ref 288) [.ref a]) (λv s'=>v= .bool be/\(∀ b o,c.heap.get? b=ao o->s'.heap.get? b=ao o)/\s'.os=c.os/\qc s'.gens) (λq q=>fm) c):PySem.Challenge.rw_dm0053_07.Holds:=by
 exact holds_law said5 λsaid=>yN rfl rfl rfl said ⟨[.list []],by decide+kernel,by decide+kernel⟩ ⟨rfl,rfl,rfl,rfl,rfl,by decide+kernel⟩ (by decide+kernel) ⋯ (λs=>by kernel_rfl)
  aIq (λq=>rfl) old1 (λw=>⟨vy w.params,0,zE w _ _ ⋯,by kernel_rfl⟩) isn1 nb1 lk1 ib1 bv1 bm1 pin1 fa1 walk
def nth(b:aq je)(k:Nat):je:=(b.drop k).headD (.Pass ⟨0,0,0,0⟩)
def e0:Expr:=.Constant .none 0 ⟨0,0,0,0⟩
def p0:Pos:=⟨0,0,0,0⟩
def forT:je->Expr | .For t _ _ _ _=>t |_=>e0
def forI:je->Expr | .For _ i _ _ _=>i |_=>e0
def forB:je->aq je | .For _ _ b _ _=>b |_=>[]
def forP:je->Pos | .For _ _ _ _ p=>p |_=>p0
def ifT:je->Expr | .If t _ _ _=>t |_=>e0
def ifB:je->aq je | .If _ b _ _=>b |_=>[]
def ifP:je->Pos | .If _ _ _ p=>p |_=>p0
def exE:je->Expr | .Expr e _=>e |_=>e0
def exP:je->Pos | .Expr _ p=>p |_=>p0
def yiE:Expr->Expr | .Yield (ao e) _=>e |_=>e0
def yiP:Expr->Pos | .Yield _ p=>p |_=>p0
def gshOf(fd:ty)(fa:dw)(b:aq je)(k:Nat):GSh:=let f:=nth b k
 let i1:=nth (forB f) 0
 let i2:=nth b (k+1)
 {fd:=fd,fa:=fa,pre:=b.take k,target:=forT f,iter:=forI f,cond:=ifT i1,ye:=yiE (exE (nth (ifB i1) 1)),cond2:=ifT i2,ye2:=yiE (exE (nth (ifB i2) 0)),s1:=nth (ifB i1) 0,s3:=nth (forB f) 1,s2:=(ifB i1).drop 2,p1:=yiP (exE (nth (ifB i1) 1)),p2:=exP (nth (ifB i1) 1),p3:=yiP (exE (nth (ifB i2) 0)),p4:=exP (nth (ifB i2) 0),p5:=ifP i1,p6:=ifP i2,p7:=forP f}
def bF(o:Obj):ty:=match o.data with | .func fd=>fd |_=> {name:="",qualname:="",params:=⟨[],[],none,[],[],none,[]⟩,body:=.stmts [],scope:=default,globals:=0,closure:=[],defaults:=.none,kwdefaults:=.none,doc:=.none,pyModule:=.none,annotations:=none,code:=.none,closureTuple:=.none,builtins:=0}
noncomputable abbrev gsh(P:dz):GSh:=gshOf (bF (vV P)) 218 (cI (stB 5 9)) 7
structure XX(C:Cx) where
 w:jp
 base:∀ b o,(H1 w).get? b=ao o->C.base.heap.get? b=ao o
 gr:∀ ρ s l gn,C.GR ρ s l gn=fQ (gsh w.params) ρ s l gn
variable(X:XX C)
theorem XX.get{b:dw}(h:(KL X.w.params).lookup b=ao o):C.base.heap.get? b=ao o:=X.base _ _ (zE X.w _ _ h)
theorem XX.inK:(KL X.w.params).In C.base.heap:=λq q h=>X.get h
theorem XX.sys(X:XX C):∃ o,C.base.heap.get? mw=ao o:=⟨_,X.get (Option.eq_some_of_isSome (by kernel_rfl:((KL X.w.params).lookup mw).isSome=be))⟩
theorem aAb{h:jy}{a:dw}(e:h.get? a=ao o)(c:(match o.data with | .dict b _=>b.all (λx=>match x.key with | .str _ _=>be |_=>aL) |_=>aL)=be):h.Ns a (λx=>match o.data with | .dict b _=>nsFind b x |_=>none):=by
 have q:h.isNs a=be:=by unfold Heap.isNs;exact rwL e c
 have y:h.nsMap a=(λx=>match o.data with | .dict b _=>nsFind b x |_=>none):=by funext x;unfold Heap.nsMap;rw[e];rfl
 exact rwR y (Heap.Ns.of_isNs q)
theorem XX.smc(X:XX C):SMC C:=by
 refine⟨⟨_,_,_,_,_,_,_,_,_,_,_,_,X.get (o:=o242 X.w.params) ⋯⟩,⟨_,aAb (X.get (o:=o241 X.w.params) ⋯) ⋯,?_,by kernel_rfl,by kernel_rfl,by kernel_rfl,?_⟩,?_⟩
 ·intro x b
  simp only[c9,du,cx,uz]at b
  rcases b with rfl |rfl |rfl |rfl |rfl |rfl |rfl |rfl |rfl |rfl<;>kernel_rfl
 ·intro p a
  simp only[eZ,du,cx,uz]at a
  rcases a with rfl |rfl |rfl |rfl |rfl |rfl |rfl |rfl |rfl<;>kernel_rfl
 ·intro p a
  simp only[eZ,du,cx,uz]at a
  rcases a with rfl |rfl |rfl |rfl |rfl |rfl |rfl |rfl |rfl
  ·exact⟨o160 X.w.params,X.get ⋯,rfl⟩
  ·exact⟨o167 X.w.params,X.get ⋯,rfl⟩
  ·exact⟨o174 X.w.params,X.get ⋯,rfl⟩
  ·exact⟨o181 X.w.params,X.get ⋯,rfl⟩
  ·exact⟨o188 X.w.params,X.get ⋯,rfl⟩
  ·exact⟨o196 X.w.params,X.get ⋯,rfl⟩
  ·exact⟨o203 X.w.params,X.get ⋯,rfl⟩
  ·exact⟨o210 X.w.params,X.get ⋯,rfl⟩
  ·exact⟨vV X.w.params,X.get ⋯,rfl⟩
theorem XX.kc:KCx C (KL X.w.params) where
 mem:=X.inK
 makes:=by kernel_rfl
 init:=by kernel_rfl
 initT:=by kernel_rfl
 callS:=by kernel_rfl
 callM:=by kernel_rfl
 typM:=by kernel_rfl
 clsM:=⟨_,_,_,_,(by kernel_rfl:(KL X.w.params).lookup aF=ao (o135 X.w.params)),by kernel_rfl,by kernel_rfl,by kernel_rfl,by kernel_rfl,by kernel_rfl,by kernel_rfl,by kernel_rfl⟩
 clsS:=⟨_,_,_,_,(by kernel_rfl:(KL X.w.params).lookup d4=ao (o242 X.w.params))⟩
 readsM:=by kernel_rfl
 newM:=by kernel_rfl
 makeM:=by kernel_rfl
 smM:=by kernel_rfl
 cmM:=⟨Value.bool aL,by kernel_rfl⟩
 initM:=by kernel_rfl
 newT:=by kernel_rfl
theorem XX.km:KMx C (KL X.w.params) where
 toK:=X.kc
 bases:=⟨_,_,_,_,(by kernel_rfl:(KL X.w.params).lookup aF=ao (o135 X.w.params)),by kernel_rfl⟩
 iter:=by kernel_rfl
 len:=by kernel_rfl
 lt:=by kernel_rfl
 tup:=by kernel_rfl
def nmL(env:Env)(x:Str):cw:=(match env.kindOf x with |some .local=>be |some .cell=>be |some .free=>be |_=>aL) && !(x==("__debug__" :Str)) && !(x==("__classdict__" :Str))
theorem yF(h:nmL env x=be):(env.kindOf x=ao .local\/env.kindOf x=ao .cell\/env.kindOf x=ao .free)/\(x==("__debug__" :Str))=aL/\(x==("__classdict__" :Str))=aL:=by
 have a:=cp.mp h
 have b:=cp.mp a.1
 refine⟨?_,Bool.not_eq_true' _ |>.mp b.2,Bool.not_eq_true' _ |>.mp a.2⟩
 have c:=b.1
 revert c
 cases env.kindOf x with
 |none=>intro h;cases h
 |some k=>cases k<;>intro h<;>first |exact .inl rfl |exact .inr (.inl rfl) |exact .inr (.inr rfl) |cases h
theorem EV.nm(h:nmL env x=be):EV C r env (.Name x pos) (eN x):=EV.name (yF h).1 (yF h).2.1 (yF h).2.2
def nmB(env:Env)(x:Str):cw:=match env.kindOf x with |some .local=>be |some .cell=>be |_=>aL
theorem nms_ok{l:aq Str}(h:l.all (nmB env)=be)(x:Str)(b:x∈l):env.kindOf x=ao .local\/env.kindOf x=ao .cell:=by
 have a:=hZ.mp h x b
 unfold nmB at a
 revert a
 cases env.kindOf x with
 |none=>intro h;cases h
 |some k=>cases k<;>intro h<;>first |exact .inl rfl |exact .inr rfl |cases h
def nmD(ns:aq (Str×ka))(x:Str):cw:=match ns.lookup x with |some .local=>be |some .cell=>be |_=>aL
theorem cQ{l:aq Str}(h:l.all (nmD ns)=be)(x:Str)(b:x∈l):ns.lookup x=ao .local\/ns.lookup x=ao .cell:=by
 have a:=hZ.mp h x b
 unfold nmD at a
 revert a
 cases ns.lookup x with
 |none=>intro h;cases h
 |some k=>cases k<;>intro h<;>first |exact .inl rfl |exact .inr rfl |cases h
theorem aEx{ns:aq (Str×ka)}{l:aq Str}(h:l.all (λx=>ns.lookup x==ao .local)=be)(x:Str)(a:x∈l):ns.lookup x=ao .local:=pz (hZ.mp h x a)
theorem XX.def_{a:dw}(i:(KL X.w.params).lookup a=ao o)(k:(KL X.w.params).lookup c=ao oc)(n:o.data= .func (bF o))(r:(bF o).code= .ref c)(b:oc.data= .fields vs)(m:vs[1]? =ao (.str (bF o).qualname t))(j:(bF o).body= .stmts body)(p:(bF o).closure= [])(g:(bF o).globals=fu)(d:(bF o).builtins=jN)(q:(bF o).scope.kind= .function)(s:(bF o).scope.isCoroutine=aL)(f:((bF o).scope.names.all λx=>match x.2 with | .free=>aL |_=>be)=be):Def C a (bF o) body:=⟨⟨_,X.get i,n⟩,⟨c,_,_,_,r,X.get k,b,m⟩,j,p,g,d,q,s,(by
 intro l h x
 exact λe=>(Bool.false_ne_true (hZ.mp h _ (mem_of_lookup e))):∀{l:aq (Str×ka)}(h:(l.all λx=>match x.2 with | .free=>aL |_=>be)=be)(x:Str),l.lookup x≠ao .free) f⟩
def alln(P:aq bz->Prop)(n:Nat):aq bz->Prop:=n.rec P λq ih l=>∀ a,ih (l++[a])
theorem aKx:∀ {l b:aq bz},b.length=n->alln P n l->P (l++b):=by
 induction n with
 |zero=>intro l b h p;cases List.eq_nil_of_length_eq_zero h;rw[c6];exact p
 |succ n c=>
  intro l b h p
  cases b with
  |nil=>cases h
  |cons a b=>rw[List.append_cons];exact c (Nat.succ.inj h) (p a)
theorem XX.bnd{a:aq Str}{b:aq bz}(n:Nat)(e:a.length=n+b.length)(h:alln (λus=>∀ S,peek (KL X.w.params) S (bindArgs fd ⟨us,[]⟩)=ao (a.zip (us++b))) n []):Binds C fd a b:=λs us d c M A E Q q=>
 (Looks.of_peek (X.kc.mem.keeps d) (aKx (Nat.add_right_cancel (bx.symm.trans (c.trans e))) h _)).here q
theorem XX.ns3:C.base.heap.Ns fu (λx=>match (o3 X.w.params).data with | .dict a _=>nsFind a x |_=>none):=aAb (X.get (o:=o3 X.w.params) ⋯) ⋯
theorem XX.ns0:C.base.heap.Ns jN (λx=>match (u7 X.w.params).data with | .dict a _=>nsFind a x |_=>none):=aAb (X.get (o:=u7 X.w.params) ⋯) ⋯
theorem XX.g_Match(X:XX C):Glo C "Match" (.ref aF):=⟨_,X.ns3,.inl ⋯⟩
theorem XX.g_SequenceMatcher(X:XX C):Glo C "SequenceMatcher" (.ref d4):=⟨_,X.ns3,.inl ⋯⟩
theorem XX.g__law_hunks(X:XX C):Glo C "_law_hunks" (.ref 251):=⟨_,X.ns3,.inl ⋯⟩
theorem XX.g__law_merged(X:XX C):Glo C "_law_merged" (.ref 258):=⟨_,X.ns3,.inl ⋯⟩
theorem XX.g__law_marks(X:XX C):Glo C "_law_marks" (.ref 263):=⟨_,X.ns3,.inl ⋯⟩
theorem XX.g__law_runs(X:XX C):Glo C "_law_runs" (.ref 268):=⟨_,X.ns3,.inl ⋯⟩
theorem XX.g__law_cells(X:XX C):Glo C "_law_cells" (.ref 273):=⟨_,X.ns3,.inl ⋯⟩
theorem XX.g__law_told(X:XX C):Glo C "_law_told" (.ref 278):=⟨_,X.ns3,.inl ⋯⟩
theorem XX.g__law_due(X:XX C):Glo C "_law_due" (.ref 283):=⟨_,X.ns3,.inl ⋯⟩
theorem XX.g_sorted(X:XX C):Glo C "sorted" (.builtin "sorted"):=⟨_,X.ns3,.inr ⟨by kernel_rfl,_,X.ns0,by kernel_rfl⟩⟩
theorem XX.g_zip(X:XX C):Glo C "zip" (.type "zip"):=⟨_,X.ns3,.inr ⟨by kernel_rfl,_,X.ns0,by kernel_rfl⟩⟩
theorem XX.g_list(X:XX C):Glo C "list" (.type "list"):=⟨_,X.ns3,.inr ⟨by kernel_rfl,_,X.ns0,by kernel_rfl⟩⟩
theorem XX.g_map(X:XX C):Glo C "map" (.type "map"):=⟨_,X.ns3,.inr ⟨by kernel_rfl,_,X.ns0,by kernel_rfl⟩⟩
theorem XX.g_set(X:XX C):Glo C "set" (.type "set"):=⟨_,X.ns3,.inr ⟨by kernel_rfl,_,X.ns0,by kernel_rfl⟩⟩
theorem XX.g_range(X:XX C):Glo C "range" (.type "range"):=⟨_,X.ns3,.inr ⟨by kernel_rfl,_,X.ns0,by kernel_rfl⟩⟩
theorem XX.g_enumerate(X:XX C):Glo C "enumerate" (.type "enumerate"):=⟨_,X.ns3,.inr ⟨by kernel_rfl,_,X.ns0,by kernel_rfl⟩⟩
theorem XX.g_tuple(X:XX C):Glo C "tuple" (.type "tuple"):=⟨_,X.ns3,.inr ⟨by kernel_rfl,_,X.ns0,by kernel_rfl⟩⟩
theorem XX.g_len(X:XX C):Glo C "len" (.builtin "len"):=⟨_,X.ns3,.inr ⟨by kernel_rfl,_,X.ns0,by kernel_rfl⟩⟩
theorem XX.g_max(X:XX C):Glo C "max" (.builtin "max"):=⟨_,X.ns3,.inr ⟨by kernel_rfl,_,X.ns0,by kernel_rfl⟩⟩
theorem XX.g_min(X:XX C):Glo C "min" (.builtin "min"):=⟨_,X.ns3,.inr ⟨by kernel_rfl,_,X.ns0,by kernel_rfl⟩⟩
theorem XX.g_sum(X:XX C):Glo C "sum" (.builtin "sum"):=⟨_,X.ns3,.inr ⟨by kernel_rfl,_,X.ns0,by kernel_rfl⟩⟩
theorem XX.d_new:Def C 82 (bF (o82 X.w.params)) (cI (stB 3 4)):=X.def_ (oc:=o81 X.w.params) ⋯ ⋯ rfl rfl rfl rfl rfl rfl rfl rfl ⋯ ⋯ ⋯
theorem XX.b_new:Binds C (bF (o82 X.w.params)) ["_cls","a","b","size"] []:=X.bnd 4 rfl λq q q q q=>by kernel_rfl
theorem XX.d_make:Def C 89 (bF (o89 X.w.params)) (cI (stB 3 5)):=X.def_ (oc:=o88 X.w.params) ⋯ ⋯ rfl rfl rfl rfl rfl rfl rfl rfl ⋯ ⋯ ⋯
theorem XX.b_make:Binds C (bF (o89 X.w.params)) ["cls","iterable"] []:=X.bnd 2 rfl λq q q=>by kernel_rfl
theorem XX.d_init:Def C 160 (bF (o160 X.w.params)) (cI (stB 5 1)):=X.def_ (oc:=o159 X.w.params) ⋯ ⋯ rfl rfl rfl rfl rfl rfl rfl rfl ⋯ ⋯ ⋯
theorem XX.b_init:Binds C (bF (o160 X.w.params)) ["self","isjunk","a","b","autojunk"] []:=X.bnd 5 rfl λq q q q q q=>by kernel_rfl
theorem XX.b_init1:Binds C (bF (o160 X.w.params)) ["self","isjunk","a","b","autojunk"] [Value.bool be]:=X.bnd 4 rfl λq q q q q=>by kernel_rfl
theorem XX.d_set_seqs:Def C 167 (bF (o167 X.w.params)) (cI (stB 5 2)):=X.def_ (oc:=o166 X.w.params) ⋯ ⋯ rfl rfl rfl rfl rfl rfl rfl rfl ⋯ ⋯ ⋯
theorem XX.b_set_seqs:Binds C (bF (o167 X.w.params)) ["self","a","b"] []:=X.bnd 3 rfl λq q q q=>by kernel_rfl
theorem XX.d_set_seq1:Def C 174 (bF (o174 X.w.params)) (cI (stB 5 3)):=X.def_ (oc:=o173 X.w.params) ⋯ ⋯ rfl rfl rfl rfl rfl rfl rfl rfl ⋯ ⋯ ⋯
theorem XX.b_set_seq1:Binds C (bF (o174 X.w.params)) ["self","a"] []:=X.bnd 2 rfl λq q q=>by kernel_rfl
theorem XX.d_set_seq2:Def C 181 (bF (o181 X.w.params)) (cI (stB 5 4)):=X.def_ (oc:=o180 X.w.params) ⋯ ⋯ rfl rfl rfl rfl rfl rfl rfl rfl ⋯ ⋯ ⋯
theorem XX.b_set_seq2:Binds C (bF (o181 X.w.params)) ["self","b"] []:=X.bnd 2 rfl λq q q=>by kernel_rfl
theorem XX.d_chain_b:Def C 188 (bF (o188 X.w.params)) (cI (stB 5 5)):=X.def_ (oc:=o187 X.w.params) ⋯ ⋯ rfl rfl rfl rfl rfl rfl rfl rfl ⋯ ⋯ ⋯
theorem XX.b_chain_b:Binds C (bF (o188 X.w.params)) ["self"] []:=X.bnd 1 rfl λq q=>by kernel_rfl
theorem XX.d_find_longest_match:Def C 196 (bF (o196 X.w.params)) (cI (stB 5 6)):=X.def_ (oc:=o195 X.w.params) ⋯ ⋯ rfl rfl rfl rfl rfl rfl rfl rfl ⋯ ⋯ ⋯
theorem XX.b_find_longest_match:Binds C (bF (o196 X.w.params)) ["self","alo","ahi","blo","bhi"] []:=X.bnd 5 rfl λq q q q q q=>by kernel_rfl
theorem XX.d_get_matching_blocks:Def C 203 (bF (o203 X.w.params)) (cI (stB 5 7)):=X.def_ (oc:=o202 X.w.params) ⋯ ⋯ rfl rfl rfl rfl rfl rfl rfl rfl ⋯ ⋯ ⋯
theorem XX.b_get_matching_blocks:Binds C (bF (o203 X.w.params)) ["self"] []:=X.bnd 1 rfl λq q=>by kernel_rfl
theorem XX.d_get_opcodes:Def C 210 (bF (o210 X.w.params)) (cI (stB 5 8)):=X.def_ (oc:=o209 X.w.params) ⋯ ⋯ rfl rfl rfl rfl rfl rfl rfl rfl ⋯ ⋯ ⋯
theorem XX.b_get_opcodes:Binds C (bF (o210 X.w.params)) ["self"] []:=X.bnd 1 rfl λq q=>by kernel_rfl
theorem XX.d_get_grouped_opcodes:Def C 218 (bF (vV X.w.params)) (cI (stB 5 9)):=X.def_ (oc:=o217 X.w.params) ⋯ ⋯ rfl rfl rfl rfl rfl rfl rfl rfl ⋯ ⋯ ⋯
theorem XX.b_get_grouped_opcodes:Binds C (bF (vV X.w.params)) ["self","n"] []:=X.bnd 2 rfl λq q q=>by kernel_rfl
theorem XX.b_get_grouped_opcodes1:Binds C (bF (vV X.w.params)) ["self","n"] [Value.int 3 534]:=X.bnd 1 rfl λq q=>by kernel_rfl
theorem XX.d__law_hunks:Def C 251 (bF (o251 X.w.params)) (cI (stA 7)):=X.def_ (oc:=o250 X.w.params) ⋯ ⋯ rfl rfl rfl rfl rfl rfl rfl rfl ⋯ ⋯ ⋯
theorem XX.b__law_hunks:Binds C (bF (o251 X.w.params)) ["base","side","n","who"] []:=X.bnd 4 rfl λq q q q q=>by kernel_rfl
theorem XX.d__law_merged:Def C 258 (bF (o258 X.w.params)) (cI (stA 8)):=X.def_ (oc:=o257 X.w.params) ⋯ ⋯ rfl rfl rfl rfl rfl rfl rfl rfl ⋯ ⋯ ⋯
theorem XX.b__law_merged:Binds C (bF (o258 X.w.params)) ["base","hunks"] []:=X.bnd 2 rfl λq q q=>by kernel_rfl
theorem XX.d__law_marks:Def C 263 (bF (o263 X.w.params)) (cI (stA 9)):=X.def_ (oc:=o262 X.w.params) ⋯ ⋯ rfl rfl rfl rfl rfl rfl rfl rfl ⋯ ⋯ ⋯
theorem XX.b__law_marks:Binds C (bF (o263 X.w.params)) ["codes","n","size"] []:=X.bnd 3 rfl λq q q q=>by kernel_rfl
theorem XX.d__law_runs:Def C 268 (bF (o268 X.w.params)) (cI (stA 10)):=X.def_ (oc:=o267 X.w.params) ⋯ ⋯ rfl rfl rfl rfl rfl rfl rfl rfl ⋯ ⋯ ⋯
theorem XX.b__law_runs:Binds C (bF (o268 X.w.params)) ["marks"] []:=X.bnd 1 rfl λq q=>by kernel_rfl
theorem XX.d__law_cells:Def C 273 (bF (o273 X.w.params)) (cI (stA 11)):=X.def_ (oc:=o272 X.w.params) ⋯ ⋯ rfl rfl rfl rfl rfl rfl rfl rfl ⋯ ⋯ ⋯
theorem XX.b__law_cells:Binds C (bF (o273 X.w.params)) ["codes","base","side"] []:=X.bnd 3 rfl λq q q q=>by kernel_rfl
theorem XX.d__law_told:Def C 278 (bF (o278 X.w.params)) (cI (stA 12)):=X.def_ (oc:=o277 X.w.params) ⋯ ⋯ rfl rfl rfl rfl rfl rfl rfl rfl ⋯ ⋯ ⋯
theorem XX.b__law_told:Binds C (bF (o278 X.w.params)) ["codes","marks","base","begin","end"] []:=X.bnd 5 rfl λq q q q q q=>by kernel_rfl
theorem XX.d__law_due:Def C 283 (bF (o283 X.w.params)) (cI (stA 13)):=X.def_ (oc:=o282 X.w.params) ⋯ ⋯ rfl rfl rfl rfl rfl rfl rfl rfl ⋯ ⋯ ⋯
theorem XX.b__law_due:Binds C (bF (o283 X.w.params)) ["base","sides","codes","reach"] []:=X.bnd 4 rfl λq q q q q=>by kernel_rfl
theorem XX.d_law:Def C 288 (bF (o288 X.w.params)) (cI (stA 14)):=X.def_ (oc:=o287 X.w.params) ⋯ ⋯ rfl rfl rfl rfl rfl rfl rfl rfl ⋯ ⋯ ⋯
theorem XX.b_law:Binds C (bF (o288 X.w.params)) ["script"] []:=X.bnd 1 rfl λq q=>by kernel_rfl
theorem XX.gc:GCx C (gsh X.w.params) where
 gr:=X.gr
 loc:=λL x=>by
  have h:∀ k,((gsh X.w.params).envL L).kindOf x=ao k->k≠ .cell/\k≠ .free:=λk e=>by
   have:=hZ.mp (by kernel_rfl:(bF (vV X.w.params)).scope.names.all (λp=>match p.2 with | .cell=>aL | .free=>aL |_=>be)=be) _ (mem_of_lookup e)
   constructor<;>rintro rfl<;>simp at this
  exact⟨λe=>(h _ e).1 rfl,λe=>(h _ e).2 rfl⟩
 cells:=λL=>by kernel_rfl
 kind:=by kernel_rfl
 gl:=by kernel_rfl
 bi:=by kernel_rfl
universe u v
structure Pk(α:Type u)(P:α->Prop):Type u where
 f:α
 ok:P f
def bd{α:Type u}{P:α->Prop}{β:Type v}(o:bn (Pk α P))(k:∀ f,P f->bn β):bn β:=o.rec none λR=>R.rec k
def gtO{α:Type u}{P:α->Prop}(o:bn (Pk α P)):bn α:=o.rec none λR=>ao R.1
theorem vR{α:Type u}{P:α->Prop}{o:bn (Pk α P)}{f:α}(h:gtO o=ao f):P f:=by
 cases o with
 |none=>cases h
 |some R=>exact cxS h R.2
def orE{β:Type u}(o k:bn β):bn β:=o.rec k ao
def onN{β:Type u}(n m:Nat)(k:n=m->bn β)(o:bn β):bn β:=if h:n=m then k h else o
def onS{β:Type u}(x y:Str)(k:x=y->bn β)(o:bn β):bn β:=if h:x=y then k h else o
def onB{β:Type u}(b:cw)(k:b=be->bn β):bn β:=if h:b=be then k h else none
def onF{β:Type u}(b:cw)(k:b=aL->bn β):bn β:=if h:b=aL then k h else none
noncomputable abbrev Kn:=Str->bn ka
structure KE(κ:Kn)(env:Env):Prop where
 kd:env.kindOf=κ
 sk:env.scope.kind= .function
structure Pf(e:Expr):Prop where
 star:∀ es env,ee (e::es) env=(aL,iw e env)::ee es env
 sub:∀ o i,subscripted e aL o i=operate [o,i] (sg o i)
 beh:∀ op,ug op e=aL
 fold:∀ env x,g4 e env x=pure x
 sw:e.ctorIdx.beq 8=aL->∀ t l env,qz e t l env=pure aL
 nb:e.ctorIdx.beq 16=aL->∀ x env,ju e x env (iw e env)=iw e env
 lg:e.ctorIdx.beq 23=be->∀ o x,mv e o x=pure ()
 tv:(e.ctorIdx.beq 0 || e.ctorIdx.beq 3 || e.ctorIdx.beq 5 || e.ctorIdx.beq 15)=aL->∀ env,isTrue e env (iw e env)=(do let v<-iw e env;vo e.pos;tX [v] (truthy v))
 nt:e.ctorIdx.beq 25=aL->∀ ts n p env,jt [.Tuple ts n p] e env=pure none
theorem fP(h: [0,2,3,5,6,8,15,16,19,20,21,23,24,25].elem e.ctorIdx=be):Pf e:=by
 have z:∀ {P:Prop},be=aL->P:=λh=>(Bool.false_ne_true h.symm).elim
 cases e<;>first |exact z h.symm |exact ⟨λq q=>rfl,λq q=>rfl,λq=>rfl,λq q=>rfl,by first |exact λq q q q=>rfl |exact z,by first |exact λq q q=>rfl |exact z,by first |exact λh=>z h.symm |exact λq q q=>rfl,by first |exact λq q=>rfl |exact z,by first |exact λq q q q q=>rfl |exact z⟩
structure EP(C:Cx)(r:Nat)(κ:Kn)(e:Expr)(f:EF):Prop where
 ok:∀ ⦃env:Env⦄,KE κ env->EV C r env e f
 pf:Pf e
noncomputable abbrev RE(C:Cx)(r:Nat)(κ:Kn)(e:Expr):=Pk EF (EP C r κ e)
structure EsP(C:Cx)(r:Nat)(κ:Kn)(es:aq Expr)(f:EFs):Prop where
 ok:∀ ⦃env:Env⦄,KE κ env->EVs C r env es f
 fl:∀ env,mE env es
def TP(C:Cx)(r:Nat)(κ:Kn)(e:Expr)(f:TF):Prop:=∀ ⦃env:Env⦄,KE κ env->TV C r env e f
noncomputable abbrev RT(C:Cx)(r:Nat)(κ:Kn)(e:Expr):=Pk TF (TP C r κ e)
noncomputable abbrev dEt(C:Cx)(r:Nat):=∀ (κ:Kn) (e:Expr),bn (RE C r κ e)
noncomputable abbrev dTt(C:Cx)(r:Nat):=∀ (κ:Kn) (e:Expr),bn (RT C r κ e)
structure Fn(C:Cx) where
 x:Str
 n:Nat
 v:bz
 r0:Nat
 g:CF
 cv:CV C r0 v g
 gl:Glo C x v
structure Mth(C:Cx) where
 x:Str
 n:Nat
 a:dw
 r0:Nat
 g:CF
 cv:CV C r0 (.ref a) g
 hm:eZ.contains (x,a)=be
structure Kti(C:Cx) where
 K:ItK C
 fi:EF->IF K
 ok:∀ {r env e f},EV C r env e f->IV K r env e (fi f)
 re:gG K
 tg:∀ t,K.tg t
structure DX(C:Cx) where
 smc:SMC C
 T:aq (Fn C)
 M:aq (Mth C)
 kt:Expr->Kti C
 fr:r3
 km:KMx C fr
 en:Glo C "enumerate" (.type "enumerate")
 sys:∃ o,C.base.heap.get? mw=ao o
 xe:∀ {r:Nat} (d:dEt C r) (t:dTt C r) (κ:Kn) (e:Expr),bn (RE C r κ e)
 xt:∀ {r:Nat} (d:dEt C r) (κ:Kn) (e:Expr),bn (RT C r κ e)
 xs:∀ {r:Nat} (d:dEt C r) (κ:Kn) (st:je),bn (Pk SF λf=>∀ ⦃env:Env⦄,KE κ env->SV C r env st f)
def dCo(κ:Kn)(c:Const)(k:Nat)(p:Pos):bn (RE C r κ (.Constant c k p)):=have pf:Pf (.Constant c k p):=fP rfl
 onN c.ctorIdx 2 (λh=>Const.int.elim (motive:=λc=>Pf (.Constant c k p)->bn (RE C r κ (.Constant c k p))) c h (λi pf=>ao ⟨eK (.int i),λq q=>EV.int,pf⟩) pf) <|
 onN c.ctorIdx 5 (λh=>Const.str.elim (motive:=λc=>Pf (.Constant c k p)->bn (RE C r κ (.Constant c k p))) c h (λi pf=>ao ⟨eK (.str i),λq q=>EV.str,pf⟩) pf) <|
 onN c.ctorIdx 1 (λh=>Const.bool.elim (motive:=λc=>Pf (.Constant c k p)->bn (RE C r κ (.Constant c k p))) c h (λi pf=>ao ⟨eK (.bool i),λq q=>EV.bool,pf⟩) pf) <|
 onN c.ctorIdx 0 (λh=>Const.none.elim (motive:=λc=>Pf (.Constant c k p)->bn (RE C r κ (.Constant c k p))) c h (λpf=>ao ⟨eK .none,λq q=>EV.none,pf⟩) pf) none
def nmK(κ:Kn)(x:Str):cw:=(match κ x with |some .local=>be |some .cell=>be |some .free=>be |_=>aL) && !(x==("__debug__" :Str)) && !(x==("__classdict__" :Str))
theorem KE.nm(k:KE κ env)(h:nmK κ x=be):nmL env x=be:=by delta nmL;exact rwL k.kd h
def glK(κ:Kn)(x:Str):cw:=κ x==ao .globalImplicit && !(x==("__debug__" :Str))
theorem KE.gl(k:KE κ env)(h:glK κ x=be):env.kindOf x=ao .globalImplicit/\(x==("__debug__" :Str))=aL:=have a:=cp.mp h
 ⟨by exact rwL k.kd (pz a.1),Bool.not_eq_true' _ |>.mp a.2⟩
def dEs(d:dEt C r)(κ:Kn)(es:aq Expr):bn (Pk EFs (EsP C r κ es)):=es.rec
 (ao ⟨esN,λq q=>EVs.nil,λq=>⟨.inl rfl,λq=>rfl⟩⟩)
 λe es ih=>bd (d κ e) λf h=>bd ih λg hs=>ao ⟨esC f g,λq k=>EVs.cons (h.ok k) (hs.ok k) (h.pf.star _ _),λenv=>⟨.inr ⟨e,es,rfl,h.pf.star _ _⟩,λpos=>by rw[h.pf.star];exact(hs.fl env).2 pos⟩⟩
theorem EsP.al{a:aq Expr}(h:EsP C r κ a f)(env:Env)(pos:Pos):(kr pos (ee a env)).all (λx=> !x.1)=be:=by
 rw[<-List.not_any_eq_all_not,(h.fl env).2];rfl
def opP(C:Cx)(r:Nat)(op:Operator)(g:OpF):Prop:=OpR C r (qh op) g
def dOp(op:Operator):bn (Pk OpF (opP C r op)):=op.casesOn (motive:=λop=>bn (Pk OpF (opP C r op))) (ao ⟨aP,OpR.add⟩) (ao ⟨cP,OpR.sub⟩) (ao ⟨d3,OpR.mul⟩) none none (ao ⟨mL,OpR.mod⟩) none none none none none none (ao ⟨fY,OpR.div⟩)
def cmP(C:Cx)(r:Nat)(op:CmpOp)(g:OpF):Prop:=OpR C r (jd op) g
def dCm(op:CmpOp):bn (Pk OpF (cmP C r op)):=op.casesOn (motive:=λop=>bn (Pk OpF (cmP C r op))) (ao ⟨bN id,OpR.eq⟩) (ao ⟨bN not,OpR.ne⟩) (ao ⟨oLt,OpR.lt⟩) (ao ⟨oLe,OpR.le⟩) (ao ⟨oGt,OpR.gt⟩) (ao ⟨oGe,OpR.ge⟩) (ao ⟨oIs id,OpR.is_⟩) (ao ⟨oIs not,OpR.isNot⟩) (ao ⟨oIn id,OpR.in_⟩) (ao ⟨oIn not,OpR.notIn⟩)
def fnd(x:Str)(n:Nat)(l:aq (Fn C)):bn (Pk (Fn C) λt=>t.x=x):=l.rec none λt q ih=>onS t.x x (λh=>bif t.n.beq 99 || t.n.beq n then ao ⟨t,h⟩ else ih) ih
def fndM(x:Str)(n:Nat)(l:aq (Mth C)):bn (Pk (Mth C) λt=>t.x=x):=l.rec none λt q ih=>onS t.x x (λh=>bif t.n.beq 99 || t.n.beq n then ao ⟨t,h⟩ else ih) ih
theorem mshape{b:Pos}{a:aq Expr}(p:Pf o)(e:o.ctorIdx.beq 16=aL)(al:EsP C r κ a f)(c:a.length.blt 30=be)(d:(b.endLine==pos.line)=be):fM env o x b pos a:=⟨p.nb e _ _,by rw[al.al];exact bp (io c),d⟩
theorem bk1(p:Pf e)(env:Env)(pos:Pos):kr pos (ee [e] env)= [(aL,iw e env)]:=by rw[p.star];rfl
theorem bk2{a:Expr}(p:Pf e)(q:Pf a)(env:Env)(pos:Pos):kr pos (ee [e,a] env)= [(aL,iw e env),(aL,iw a env)]:=by rw[p.star,q.star];rfl
theorem pfC{a:aq Expr}:Pf (.Call f a ks p):=fP rfl
theorem es1(h:EP C r κ e f):EsP C r κ [e] (esC f esN):=⟨λq k=>EVs.cons (h.ok k) EVs.nil (h.pf.star _ _),λenv=>⟨.inr ⟨e,_,rfl,h.pf.star _ _⟩,λpos=>by rw[h.pf.star];rfl⟩⟩
theorem es0:EsP C r κ [] esN:=⟨λq q=>EVs.nil,λq=>⟨.inl rfl,λq=>rfl⟩⟩
theorem es2{b:Expr}(h:EP C r κ e f)(a:EP C r κ b f2):EsP C r κ [e,b] (esC f (esC f2 esN)):=⟨λq k=>EVs.cons (h.ok k) ((es1 a).ok k) (h.pf.star _ _),λenv=>⟨.inr ⟨e,_,rfl,h.pf.star _ _⟩,λpos=>by rw[h.pf.star];exact((es1 a).fl env).2 pos⟩⟩
def dMe(D:DX C)(d:dEt C r)(κ:Kn)(o:Expr)(m:Str)(ap:Pos)(as:aq Expr)(pos:Pos)(f:EF)(h:EP C r κ o f)(hc:o.ctorIdx.beq 16=aL)(hk:(ap.endLine==pos.line)=be):bn (RE C r κ (.Call (.Attribute o m ap) as [] pos)):=orE (onS m "append" (λq=>as.casesOn none λe z=>z.casesOn (bd (d κ e) λf2 h2=>ao ⟨cV f f2,λa k=>by subst q;exact EV.append (h.ok k) (h2.ok k) (mshape h.pf hc (es1 h2) rfl hk) (bk1 h2.pf _ _),pfC⟩) λa a=>none) <|
  onS m "pop" (λq=>as.casesOn (ao ⟨ePop f,λa k=>by subst q;exact EV.pop (h.ok k) (mshape h.pf hc (es0 (C:=C) (r:=r) (κ:=κ)) rfl hk),pfC⟩) λa a=>none) <|
  onS m "setdefault" (λq=>as.casesOn none λe z=>z.casesOn none λe2 z=>z.casesOn (bd (d κ e) λf2 h2=>bd (d κ e2) λf3 h3=>ao ⟨aBi f f2 f3,λa k=>by subst q;exact EV.setdefault D.sys (h.ok k) (h2.ok k) (h3.ok k) (mshape h.pf hc (es2 h2 h3) rfl hk) (bk2 h2.pf h3.pf _ _),pfC⟩) λa a=>none) <|
  onS m "get" (λq=>as.casesOn none λe z=>z.casesOn none λe2 z=>z.casesOn (bd (d κ e) λf2 h2=>bd (d κ e2) λf3 h3=>ao ⟨eGet f f2 f3,λa k=>by subst q;exact EV.get D.sys (h.ok k) (h2.ok k) (h3.ok k) (mshape h.pf hc (es2 h2 h3) rfl hk) (bk2 h2.pf h3.pf _ _),pfC⟩) λa a=>none) none) <|
 bd (dEs d κ as) λg hs=>bd (fndM m as.length D.M) λt te=>onB (t.r0.ble r) λhr=>onB (as.length.blt 30) λhl=>ao ⟨fR t.g f g,λa k=>EV.meth D.smc (te▸m1.mp t.hm) (t.cv.lift hr) (h.ok k) (hs.ok k) (hs.fl _) (mshape h.pf hc hs hl hk),pfC⟩
def dCl(D:DX C)(d:dEt C r)(κ:Kn)(fn:Expr)(as:aq Expr)(ks:aq ua)(pos:Pos):bn (RE C r κ (.Call fn as ks pos)):=ks.casesOn (onN fn.ctorIdx 23 (λq=>Expr.Name.elim fn q λx np=>orE
  (onB (nmK κ x) λhx=>bd (dEs d κ as) λg hs=>ao ⟨eCv (eN x) g,λa k=>EV.callV D.sys (EV.nm (k.nm hx)) (hs.ok k) (hs.fl _),pfC⟩) <|
  onB (glK κ x) λhg=>bd (dEs d κ as) λg hs=>bd (fnd x as.length D.T) λt te=>onB (t.r0.ble r) λhr=>ao ⟨aI t.g g,λa k=>EV.call (t.cv.lift hr) (te▸t.gl) (hs.ok k) (hs.fl _) (k.gl hg).1 (k.gl hg).2,pfC⟩) <|
 onN fn.ctorIdx 20 (λq=>Expr.Attribute.elim fn q λo m ap=>bd (d κ o) λf h=>onF (o.ctorIdx.beq 16) λhc=>onB (ap.endLine==pos.line) λhk=>dMe D d κ o m ap as pos f h hc hk) none) λa a=>none
def alP(C:Cx)(r:Nat)(κ:Kn)(op:BoolOp)(es:aq Expr)(f:TF):Prop:=∀ ⦃env:Env⦄,KE κ env->kS C r env op es f
def dAll(t:dTt C r)(κ:Kn)(op:BoolOp)(es:aq Expr):bn (Pk TF (alP C r κ op es)):=op.casesOn (motive:=λop=>bn (Pk TF (alP C r κ op es)))
 (es.rec (ao ⟨tK be,λq q=>kS.and_nil⟩) λe es ih=>bd (t κ e) λf h=>bd ih λg hs=>ao ⟨aW f g,λq k=>kS.and_cons (h k) (hs k)⟩)
 (es.rec (ao ⟨tK aL,λq q=>kS.or_nil⟩) λe es ih=>bd (t κ e) λf h=>bd ih λg hs=>ao ⟨tOr f g,λq k=>kS.or_cons (h k) (hs k)⟩)
def dCmp{M:Expr->Type}(d:dEt C r)(κ:Kn)(l:Expr)(ops:aq CmpOp)(rs:aq Expr)(p:Pos)(w:∀ op e f g o,EP C r κ l f->EP C r κ e g->cmP C r op o->M (.Compare l [op] [e] p)):bn (M (.Compare l ops rs p)):=ops.casesOn none λop z=>z.casesOn (rs.casesOn none λe z=>z.casesOn (bd (d κ l) λf h=>bd (d κ e) λg h2=>bd (dCm (C:=C) (r:=r) op) λo ho=>ao (w op e f g o h h2 ho)) λq q=>none) λq q=>none
def dT1(D:DX C)(d:dEt C r)(t:dTt C r):dTt C r:=λκ e=>
 orE (onN e.ctorIdx 3 (λq=>Expr.UnaryOp.elim e q λop x p=>onN op.ctorIdx 1 (λq=>UnaryOp.Not.elim (motive:=λop=>bn (RT C r κ (.UnaryOp op x p))) op q <| bd (t κ x) λf h=>ao ⟨q9 f,λa k=>TV.not (h k)⟩) none) <|
  onN e.ctorIdx 0 (λq=>Expr.BoolOp.elim e q λop vs p=>bd (dAll t κ op vs) λf h=>ao ⟨f,λa k=>TV.boolOp (h k)⟩) <|
  onN e.ctorIdx 15 (λq=>Expr.Compare.elim e q λl ops rs p=>dCmp d κ l ops rs p λop e f g o h h2 ho=>⟨tE (aA o f g),λa k=>TV.cmp1 (h.ok k) (h2.ok k) ho (h2.pf.beh _)⟩) <|
  onF (e.ctorIdx.beq 0 || e.ctorIdx.beq 3 || e.ctorIdx.beq 5 || e.ctorIdx.beq 15) λhs=>bd (d κ e) λf h=>ao ⟨tE f,λa k=>TV.val (h.ok k) (h.pf.tv hs _)⟩) <| D.xt d κ e
def dTi(D:DX C)(n:Nat)(d:dEt C r):dTt C r:=n.rec (λq q=>none) λq ih=>dT1 D d ih
structure RIt(C:Cx)(r:Nat)(κ:Kn)(e:Expr) where
 K:ItK C
 fi:IF K
 ok:∀ ⦃env:Env⦄,KE κ env->IV K r env e fi
 re:gG K
 b:cw
 tg:∀ t,(b || t.ctorIdx.beq 25)=be->K.tg t
 nd:K.need<=r
 fold:∀ env x,g4 e env x=pure x
def dEn(D:DX C)(d:dEt C r)(κ:Kn)(e:Expr):bn (RIt C r κ e):=onN e.ctorIdx 16 (λq=>Expr.Call.elim e q λfn as ks pos=>
 ks.casesOn (as.casesOn none λa z=>z.casesOn (onN fn.ctorIdx 23 (λq=>Expr.Name.elim fn q λx np=>
  onS x "enumerate" (λhx=>onB (glK κ "enumerate") λhg=>bd (d κ a) λf h=>ao ⟨nA C,iL f,λb k=>by subst hx;exact IV.enum (h.ok k) D.en (k.gl hg).1 ((es1 h).fl _) (h.pf.star _ _),gG.enum,aL,
   λt ht=>Expr.Tuple.elim t (Nat.eq_of_beq_eq_true ht) λb b b=>⟨_,_,_,rfl⟩,hN _,λb b=>rfl⟩) none) none) λb b=>none) λb b=>none) none
def dIi(D:DX C)(d:dEt C r)(κ:Kn)(e:Expr):bn (RIt C r κ e):=orE (dEn D d κ e) <| bd (d κ e) λf h=>onB ((D.kt e).K.need.ble r) λhn=>ao ⟨(D.kt e).K,(D.kt e).fi f,λq k=>(D.kt e).ok (h.ok k),(D.kt e).re,be,λt q=>(D.kt e).tg t,io hn,h.pf.fold⟩
structure AP(W:Env->dw->Prop)(C:Cx)(r:Nat)(κ:Kn)(e:Expr)(f:AF):Prop where
 ok:∀ ⦃env:Env⦄,KE κ env->AVW C W r env e f
 st:∀ ts env,fp (e::ts) env=(aL,ul e env)::fp ts env
 s1:∀ v env,Pf v->(e.ctorIdx.beq 25 && v.ctorIdx.beq 25)=aL->jt [e] v env=pure none
 s2:∀ t ts v env,jt (e::t::ts) v env=pure none
structure AsP(W:Env->dw->Prop)(C:Cx)(r:Nat)(κ:Kn)(es:aq Expr)(f:AFs):Prop where
 ok:∀ ⦃env:Env⦄,KE κ env->q8 C W r env es f
 ln:∀ env,(fp es env).length=es.length
 nf:∀ env,(fp es env).findIdx? (·.1)=none
def dAs(a:∀ e,bn (Pk AF (AP W C r κ e)))(es:aq Expr):bn (Pk AFs (AsP W C r κ es)):=es.rec
 (ao ⟨asN,λq q=>q8.nil,λq=>rfl,λq=>rfl⟩)
 λe es ih=>bd (a e) λf h=>bd ih λg hs=>ao ⟨asC f g,λq k=>q8.cons (h.ok k) (hs.ok k) (h.st _ _),λenv=>by rw[h.st];exact cu (·+1) (hs.ln env),λenv=>by rw[h.st,List.findIdx?_cons,hs.nf];rfl⟩
def dLi(κ:Kn)(n:Nat):∀ e,bn (Pk AF (AP LW C r κ e)):=n.rec (λa=>none) λa ih e=>
 onN e.ctorIdx 23 (λq=>Expr.Name.elim e q λx p=>onB (κ x==ao .local) λh=>ao ⟨aN x,λa k=>ALV.name (by rw[k.kd];exact pz h),λa a=>rfl,λa a a a=>rfl,λa a a a=>rfl⟩) <|
 onN e.ctorIdx 25 (λq=>Expr.Tuple.elim e q λts k p=>bd (dAs ih ts) λf h=>ao ⟨aTup ts.length f,λa k=>ALV.tuple (h.ok k) (h.ln _) (h.nf _),λa a=>rfl,λa a p n=>p.nt n _ _ _ _,λa a a a=>rfl⟩) none
def stK(κ:Kn)(x:Str):cw:=match κ x with |some .local=>be |some .cell=>be |_=>aL
theorem KE.st(k:KE κ env){l:aq Str}(h:l.all (stK κ)=be):∀ x∈l,env.kindOf x=ao .local\/env.kindOf x=ao .cell:=nms_ok (by cases k.kd;exact h)
theorem KE.s_(k:KE κ env)(h:stK κ x=be):env.kindOf x=ao .local\/env.kindOf x=ao .cell:=k.st (l:=[x]) (by show(stK κ x && be)=be;rw[Bool.and_true];exact h) x (.head _)
def dA(D:DX C)(d:dEt C r)(κ:Kn)(n:Nat):∀ e,bn (Pk AF (AP Wr C r κ e)):=n.rec (λc=>none) λc ih e=>
 onN e.ctorIdx 23 (λq=>Expr.Name.elim e q λx p=>onB (stK κ x) λh=>ao ⟨aN x,λc k=>AV.name (k.s_ h),λc c=>rfl,λc c c c=>rfl,λc c c c=>rfl⟩) <|
 onN e.ctorIdx 25 (λq=>Expr.Tuple.elim e q λts k p=>bd (dAs ih ts) λf h=>ao ⟨b3 ts.length f,λc k=>AV.tupleM D.km (h.ok k) (h.ln _) (h.nf _),λc c=>rfl,λc c p n=>p.nt n _ _ _ _,λc c c c=>rfl⟩) <|
 onN e.ctorIdx 21 (λq=>Expr.Subscript.elim e q λa b p=>bd (d κ a) λf h=>bd (d κ b) λg h2=>ao ⟨jG f g,λc k=>AV.sub (h.ok k) (h2.ok k),λc c=>rfl,λc c c c=>rfl,λc c c c=>rfl⟩) <|
 onN e.ctorIdx 20 (λq=>Expr.Attribute.elim e q λa x p=>bd (d κ a) λf h=>onB (c9.contains x) λhx=>ao ⟨eW x f,λc k=>AV.attr D.smc (m1.mp hx) (h.ok k),λc c=>rfl,λc c c c=>rfl,λc c c c=>rfl⟩) none
def cKi(κ:Kn)(sc:qk):Kn:=λx=>(sc.names.lookup x).map λk=>if (k== .free && ScopeKind.function==ScopeKind.function && κ x==ao .cell)=be then .cell else k
theorem KE.comp{a:qk}(k:KE κ env)(h:a.kind= .function)(L:dw):KE (cKi κ a) (gY env a L):=⟨by
 funext x
 rw[kO]
 unfold yE cKi
 rw[k.sk,k.kd],h⟩
def hidOf(sc:qk):aq Str:=sc.names.filterMap λp=>if (p.2== .local)=be then ao p.1 else none
def csK(κ:Kn)(sc:qk)(hid:aq Str):cw:=decide (sc.kind= .function) && ((sc.names.all λp=>p.2 != .cell) && ((sc.names.all λp=>p.2 != .free || (κ p.1==ao .cell)) && ((sc.names.all λp=>p.2 != .local || (sc.names.lookup p.1==ao .local && hid.contains p.1)) && (hid.all λx=>sc.names.lookup x != ao .free))))
theorem KE.cs(k:KE κ env)(h:csK κ e d=be):mX env e d/\(d.all λx=>e.names.lookup x != ao .free)=be:=have a:=cp.mp h
 have b:=cp.mp a.2
 have c:=cp.mp b.2
 ⟨⟨cn a.1,b.1,by exact rwL k.kd c.1,(cp.mp c.2).1⟩,(cp.mp c.2).2⟩
theorem cm_eq{g:lu}(h:g.is_async=0):g=⟨g.target,g.iter,g.ifs,0⟩:=by
 cases g
 subst h
 rfl
def cnP(C:Cx)(r:Nat)(κ:Kn)(cs:aq Expr)(f:TF):Prop:=∀ ⦃env:Env⦄,KE κ env->CnV C r env cs f
def dCn(t:dTt C r)(κ:Kn)(cs:aq Expr):bn (Pk TF (cnP C r κ cs)):=cs.rec (ao ⟨tK be,λq q=>CnV.nil⟩) λe es ih=>bd (t κ e) λf h=>bd ih λg hs=>ao ⟨aW f g,λq k=>CnV.cons (h k) (hs k)⟩
def bP(C:Cx)(r:Nat)(κ:Kn)(elt:Expr)(gens:aq lu)(sc:qk)(pos:Pos)(j:Nat)(f:BF):Prop:=∀ ⦃env:Env⦄,KE κ env->BV C r env elt gens sc pos j f
def dBi(D:DX C)(d:dEt C r)(t:dTt C r)(κ:Kn)(elt:Expr)(gens:aq lu)(sc:qk)(pos:Pos)(n:Nat):∀ j,bn (Pk BF (bP C r κ elt gens sc pos j)):=n.rec (λq=>none) λq ih j=>
 Option.rec (motive:=λo=>gens[j+1]? =o->bn (Pk BF (bP C r κ elt gens sc pos j))) (λhg=>bd (d κ elt) λf h=>ao ⟨aV f,λq k=>BV.last (h.ok k) hg⟩)
  (λg hg=>(dIi D d κ g.iter).rec none λR=>bd (dLi (C:=C) (r:=r) κ 4 g.target) λta ht=>bd (dCn t κ g.ifs) λc hc=>bd (ih (j+1)) λbf hb=>onB (R.b || g.target.ctorIdx.beq 25) λhT=>if ha:g.is_async=0 then
   ao ⟨mB R.K R.fi ta c bf,λq k=>BV.more (hg.trans (cu ao (cm_eq ha))) R.re (R.ok k) (ht.ok k) (hc k) (hb k) ⟨R.tg _ hT,R.nd⟩ (R.fold _)⟩ else none) gens[j+1]? rfl
structure CP(C:Cx)(r:Nat)(κ:Kn)(elt:Expr)(gens:aq lu)(sc:qk)(pos:Pos)(f:EF):Prop where
 ok:∀ ⦃env:Env⦄,KE κ env->EV C r env (.ListComp elt gens sc pos) f
 as:∀ ⦃env:Env⦄{x:Str}{p q:Pos},KE κ env->env.kindOf x=ao .local->qz (.ListComp elt gens sc pos) (ao (.Name x p)) q.line env=pure be->SV C r env (.Assign [.Name x p] (.ListComp elt gens sc pos) q) (bD x f)
def dC(D:DX C)(d:dEt C r)(t:dTt C r)(κ:Kn)(elt:Expr)(gens:aq lu)(sc:qk)(pos:Pos):bn (Pk EF (CP C r κ elt gens sc pos)):=gens.casesOn none λg gs=>g.casesOn λgt gi gf ga=>onB (csK κ sc (hidOf sc)) λhc=>
 (dIi D d κ gi).rec none λR=>bd (dLi (C:=C) (r:=r) (cKi κ sc) 4 gt) λta ht=>bd (dCn t (cKi κ sc) gf) λc hcn=>bd (dBi D d t (cKi κ sc) elt (⟨gt,gi,gf,0⟩::gs) sc pos 4 0) λbf hb=>onB (R.b || gt.ctorIdx.beq 25) λhT=>if ha:ga=0 then
  ao ⟨bJ R.K (hidOf sc) R.fi ta c bf,ha.symm▸⟨λa k=>have q:=k.comp (k.cs hc).1.kind;EV.comp (k.cs hc).1 (k.cs hc).2 R.re (R.ok k) (λL=>ht.ok (q L)) (λL=>hcn (q L)) (λL=>hb (q L)) ⟨R.tg _ hT,R.nd⟩ (R.fold _),
   λa a a a k hx hs=>have q:=k.comp (k.cs hc).1.kind;SV.assignC hx hs (k.cs hc).1 (k.cs hc).2 R.re (R.ok k) (λL=>ht.ok (q L)) (λL=>hcn (q L)) (λL=>hb (q L)) ⟨R.tg _ hT,R.nd⟩ (R.fold _)⟩⟩ else none
theorem nm_cl{e:Expr}(h:e.ctorIdx.beq 23=be):e.ctorIdx.beq 16=aL:=by rw[Nat.eq_of_beq_eq_true h];rfl
def dAt(D:DX C)(d:dEt C r)(κ:Kn)(a:Expr)(x:Str)(p:Pos):bn (RE C r κ (.Attribute a x p)):=have pf:Pf (.Attribute a x p):=fP rfl
 bd (d κ a) λf h=>orE (onB (a.ctorIdx.beq 23) λhn=>orE
   (onB (c9.contains x) λhx=>ao ⟨eQ x f,λq k=>EV.attr D.smc (m1.mp hx) (h.ok k) (h.pf.nb (nm_cl hn) _ _) (h.pf.lg hn),pf⟩)
   (onS x "get" (λhx=>ao ⟨eBd .dget okD f,λq k=>by subst hx;exact EV.dget (h.ok k) (h.pf.nb (nm_cl hn) _ _) (h.pf.lg hn),pf⟩) none)) <|
  onF (a.ctorIdx.beq 16) λhc=>onS x "__contains__" (λhx=>ao ⟨eBd .scon okS f,λq k=>by subst hx;exact EV.scon2 (h.ok k) (h.pf.nb hc _ _),pf⟩) none
def dE1(D:DX C)(d:dEt C r):dEt C r:=λκ e=>orE
 (onN e.ctorIdx 23 (λq=>Expr.Name.elim e q λx p=>onB (nmK κ x) λh=>ao ⟨eN x,λj k=>EV.nm (k.nm h),fP rfl⟩) <|
 onN e.ctorIdx 19 (λq=>Expr.Constant.elim e q λc k p=>dCo κ c k p) <|
 onN e.ctorIdx 2 (λq=>Expr.BinOp.elim e q λa op b p=>bd (d κ a) λf h=>bd (d κ b) λg h2=>bd (dOp (C:=C) (r:=r) op) λo ho=>ao ⟨aA o f g,λj k=>EV.binOp (h.ok k) (h2.ok k) ho,fP rfl⟩) <|
 onN e.ctorIdx 21 (λq=>Expr.Subscript.elim e q λa b p=>bd (d κ a) λf h=>bd (d κ b) λg h2=>ao ⟨aA aQ f g,λj k=>EV.idx (h.ok k) (h2.ok k) λo i=>⟨_,h2.pf.sub o i⟩,fP rfl⟩) <|
 onN e.ctorIdx 15 (λq=>Expr.Compare.elim e q λl ops rs p=>dCmp d κ l ops rs p λop e f g o h h2 ho=>⟨aA o f g,λj k=>EV.cmp1 (h.ok k) (h2.ok k) ho (h2.pf.beh _),fP rfl⟩) <|
 onN e.ctorIdx 3 (λq=>Expr.UnaryOp.elim e q λop a p=>onN op.ctorIdx 3 (λq=>UnaryOp.USub.elim (motive:=λop=>bn (RE C r κ (.UnaryOp op a p))) op q <| bd (d κ a) λf h=>ao ⟨n9 f,λj k=>EV.neg (h.ok k),fP rfl⟩) none) <|
 onN e.ctorIdx 25 (λq=>Expr.Tuple.elim e q λes k p=>bd (dEs d κ es) λf h=>ao ⟨aY f,λj k=>EV.tuple (h.ok k),fP rfl⟩) <|
 onN e.ctorIdx 24 (λq=>Expr.List.elim e q λes p=>bd (dEs d κ es) λf h=>ao ⟨b8 f,λj k=>EV.list (h.ok k),fP rfl⟩) <|
 onN e.ctorIdx 6 (λq=>Expr.Dict.elim e q λks vs p=>ks.casesOn (vs.casesOn (ao ⟨sN,λj j=>EV.dict0,fP rfl⟩) λj j=>none) λj j=>none) <|
 onN e.ctorIdx 20 (λq=>Expr.Attribute.elim e q λa x p=>dAt D d κ a x p) <|
 onN e.ctorIdx 8 (λq=>Expr.ListComp.elim e q λelt gs sc p=>bd (dC D d (dTi D 9 d) κ elt gs sc p) λf h=>ao ⟨f,h.ok,fP rfl⟩) <|
 onN e.ctorIdx 16 (λq=>Expr.Call.elim e q λfn as ks p=>dCl D d κ fn as ks p) none) <| D.xe d (dTi D 9 d) κ e
def dE(D:DX C)(n:Nat):dEt C r:=n.rec (λq q=>none) λq ih=>dE1 D ih
def SP(C:Cx)(r:Nat)(κ:Kn)(st:je)(f:SF):Prop:=∀ ⦃env:Env⦄,KE κ env->SV C r env st f
def SsP(C:Cx)(r:Nat)(κ:Kn)(st:aq je)(f:SF):Prop:=∀ ⦃env:Env⦄,KE κ env->SVs C r env st f
noncomputable abbrev dSt(C:Cx)(r:Nat):=∀ (κ:Kn) (st:je),bn (Pk SF (SP C r κ st))
theorem KE.ia(k:KE κ env):qi env=aL:=by delta qi;rw[k.sk];rfl
def swK(κ:Kn)(x:Str)(a b:Nat)(sc:qk):cw:=ScopeKind.function==ScopeKind.function && κ x==ao .local && a==b && !(sc.names.any fun(n,k)=>n==x && (k== .local || k== .cell))
theorem KE.bk(k:KE κ env):env.blockKind= .function:=by unfold Env.blockKind;refine rwL k.sk ?_;rfl
theorem KE.sw(k:KE κ env){b:Expr}{a:qk}:qz (.ListComp b c a q) (ao (.Name x p)) l env=pure (swK κ x p.line q.line a):=by
 show pure (env.blockKind== .function && env.kindOf x==ao .local && p.line==q.line && !(a.names.any fun(n,k)=>n==x && (k== .local || k== .cell)))=_
 refine rwL k.bk (rwL k.kd ?_);rfl
theorem aIh{a b:Nat}(h:swK κ x a b c=be):κ x=ao .local:=pz (cp.mp (cp.mp (cp.mp h).1).1).2
def isSt(e:Expr):cw:=swappedStores.match_5 (λq=>cw) e (λq q=>be) λq=>aL
def nms(κ:Kn)(ts:aq Expr):aq Str:=ts.filterMap λx=>swappedStores.match_8 (λq=>bn Str) x (λid pos=>if κ id==ao .local && pos.line==(ts.head?.map (·.pos.line)).getD 0 then ao id else none) λq=>none
def w1(ts vs:aq Expr):cw:= !(ts.length==2 || ts.length==3) || vs.length != ts.length || ScopeKind.function != ScopeKind.function
def w2(κ:Kn)(ts:aq Expr):cw:=(nms κ ts).length != ts.length || (nms κ ts).eraseDups.length != (nms κ ts).length
theorem itT{α:Type}{a b:cw}{x y:α}(h:(a || b)=be)(k:b=be->y=x):(if a=be then x else y)=x:=by
 cases a with
 |true=>rfl
 |false=>exact k h
theorem itF{α:Type}{a b:cw}{x y z:α}(h:(a || b)=aL)(k:b=aL->y=z):(if a=be then x else y)=z:=by
 cases a with
 |true=>cases h
 |false=>exact k h
theorem KE.s0(k:KE κ env){a:aq Expr}(h:(w1 a vs || (vs.any isSt || (w2 κ a || vs.all (r5 8))))=be):jt [.Tuple a n p] (.Tuple vs m q) env=pure none:=by
 cases k.kd
 delta jt
 exact rwL k.bk (itT h λh=>itT h λh=>itT h λh=>cj h)
theorem KE.s1(k:KE κ env){a:aq Expr}(h:(w1 a vs || (vs.any isSt || (w2 κ a || (vs.all (r5 8) || vs.all (constantsAlone 8)))))=aL):jt [.Tuple a n p] (.Tuple vs m q) env=pure (ao (nms κ a)):=by
 cases k.kd
 delta jt
 exact rwL k.bk (itF h λh=>itF h λh=>itF h λh=>itF h λh=>cc (by exact rwL h Bool.false_ne_true))
def dAg(D:DX C)(d:dEt C r)(κ:Kn)(t e:Expr)(pos:Pos):bn (Pk SF (SP C r κ (.Assign [t] e pos))):=bd (d κ e) λf h=>onF (e.ctorIdx.beq 8) λhl=>bd (dA D d κ 4 t) λg hg=>onF (t.ctorIdx.beq 25 && e.ctorIdx.beq 25) λht=>
 ao ⟨cD f g,λq k=>SV.assigns (h.ok k) (ALs.one (hg.ok k) (by rw[hg.st];rfl)) (h.pf.sw hl _ _ _) (hg.s1 _ _ h.pf ht)⟩
def dAn(D:DX C)(d:dEt C r)(κ:Kn)(x:Str)(p:Pos)(e:Expr)(pos:Pos):bn (Pk SF (SP C r κ (.Assign [.Name x p] e pos))):=onB (stK κ x) λhs=>orE
 (onN e.ctorIdx 8 (λq=>Expr.ListComp.elim e q λelt gs sc q=>bd (dC D d (dTi D 9 d) κ elt gs sc q) λf h=>
  ao ⟨bD x f,λa k=>(Bool.eq_false_or_eq_true (swK κ x p.line q.line sc)).elim (λhw=>h.as k (by rw[k.kd];exact aIh hw) (by rw[k.sw,hw])) λhw=>SV.assign (h.ok k) (k.s_ hs) (by rw[k.sw,hw])⟩) none) <|
 bd (d κ e) λf h=>onF (e.ctorIdx.beq 8) λhl=>ao ⟨bD x f,λa k=>SV.assign (h.ok k) (k.s_ hs) (h.pf.sw hl _ _ _)⟩
def dAt2(D:DX C)(d:dEt C r)(κ:Kn)(ts vs:aq Expr)(n m:Nat)(p q:Pos)(pos:Pos):bn (Pk SF (SP C r κ (.Assign [.Tuple ts n p] (.Tuple vs m q) pos))):=bd (d κ (.Tuple vs m q)) λf h=>orE
 (onB (w1 ts vs || (vs.any isSt || (w2 κ ts || vs.all (r5 8)))) λh1=>bd (dA D d κ 4 (.Tuple ts n p)) λg hg=>ao ⟨cD f g,λenv k=>SV.assigns (h.ok k) (ALs.one (hg.ok k) (by rw[hg.st];rfl)) (h.pf.sw rfl (ao (.Tuple ts n p)) pos.line env) (k.s0 h1)⟩) <|
 onF (w1 ts vs || (vs.any isSt || (w2 κ ts || (vs.all (r5 8) || vs.all (constantsAlone 8))))) λh2=>onB ((nms κ ts).all (stK κ)) λh3=>ao ⟨cL (nms κ ts) f,λenv k=>SV.swap (h.ok k) (h.pf.sw rfl (ao (.Tuple ts n p)) pos.line env) (k.s1 h2) (k.st h3)⟩
structure HP(C:Cx)(r:Nat)(κ:Kn)(ts:aq Expr)(f:AF):Prop where
 ok:∀ ⦃env:Env⦄,KE κ env->ALs C r env ts f
 ne:∀ env,∃ x xs,(fp ts env).map (·.2)=x::xs
def dH(D:DX C)(d:dEt C r)(κ:Kn)(ts:aq Expr):∀ t,bn (Pk AF (HP C r κ (t::ts))):=ts.rec
 (λt=>bd (dA D d κ 4 t) λg h=>ao ⟨g,λq k=>ALs.one (h.ok k) (by rw[h.st];rfl),λq=>by rw[h.st];exact⟨_,_,rfl⟩⟩)
 λt2 ts ih t=>bd (dA D d κ 4 t) λg h=>bd (ih t2) λf hs=>ao ⟨iY g f,λenv k=>ALs.cons (h.ok k) (hs.ok k) (by rw[h.st];rfl) (hs.ne env),λq=>by rw[h.st];exact⟨_,_,rfl⟩⟩
def dA2(D:DX C)(d:dEt C r)(κ:Kn)(t t2:Expr)(ts:aq Expr)(e:Expr)(pos:Pos):bn (Pk SF (SP C r κ (.Assign (t::t2::ts) e pos))):=bd (d κ e) λf h=>bd (dA D d κ 4 t) λq h2=>bd (dH D d κ (t2::ts) t) λg hg=>ao ⟨cD f g,λq k=>SV.assigns (h.ok k) (hg.ok k) rfl (h2.s2 _ _ _ _)⟩
def dSs(s:dSt C r)(κ:Kn)(l:aq je):bn (Pk SF (SsP C r κ l)):=l.rec (ao ⟨sK .next,λq q=>SVs.nil⟩) λe es ih=>bd (s κ e) λf h=>bd ih λg hs=>ao ⟨aB f g,λq k=>SVs.cons (h k) (hs k)⟩
def dS1(D:DX C)(s:dSt C r):dSt C r:=λκ st=>
 orE (onN st.ctorIdx 5 (λq=>Stmt.Assign.elim st q λts e pos=>ts.casesOn none λt ts=>orE
  (ts.casesOn (onN t.ctorIdx 23 (λq=>Expr.Name.elim t q λx p=>dAn D (dE D 12) κ x p e pos) <| orE
   (onN t.ctorIdx 25 (λq=>Expr.Tuple.elim t q λts n p=>onN e.ctorIdx 25 (λq=>Expr.Tuple.elim e q λvs m q=>dAt2 D (dE D 12) κ ts vs n m p q pos) none) none) <|
   dAg D (dE D 12) κ t e pos) λd d=>none) <|
  ts.casesOn none λt2 ts=>dA2 D (dE D 12) κ t t2 ts e pos) <|
 onN st.ctorIdx 24 (λq=>Stmt.Expr.elim st q λe p=>orE
  (onN e.ctorIdx 19 (λq=>Expr.Constant.elim e q λc a b=>onN c.ctorIdx 5 (λq=>Const.str.elim (motive:=λc=>bn (Pk SF (SP C r κ (.Expr (.Constant c a b) p)))) c q λx=>ao ⟨sK .next,λd k=>SV.doc k.ia rfl⟩) none) none) <|
  bd (dE D 12 κ e) λf h=>onF (e.ctorIdx.beq 8) λhl=>ao ⟨aX f,λd k=>SV.expr (h.ok k) k.ia (h.pf.sw hl _ _ _)⟩) <|
 onN st.ctorIdx 12 (λq=>Stmt.If.elim st q λt a b p=>bd (dTi D 9 (dE D 12) κ t) λc hc=>bd (dSs s κ b) λg h2=>orE (bd (dSs s κ a) λf h=>ao ⟨sIf c f g,λd k=>SV.ite (hc k) (h k) (h2 k)⟩) <| some ⟨sIf c sNo g,λd k=>SV.ite (hc k) SVs.no (h2 k)⟩) <|
 onN st.ctorIdx 9 (λq=>Stmt.For.elim st q λt i b o p=>o.casesOn ((dIi D (dE D 12) κ i).rec none λR=>bd (dA D (dE D 12) κ 4 t) λg hg=>bd (dSs s κ b) λf h=>onB (R.b || t.ctorIdx.beq 25) λht=>ao ⟨d6 R.K R.fi g f,λd k=>SV.for_ (R.ok k) (hg.ok k) (h k) ⟨R.tg _ ht,R.nd⟩ (R.fold _)⟩) λd d=>none) <|
 onN st.ctorIdx 3 (λq=>Stmt.Return.elim st q λe p=>e.casesOn (ao ⟨sK (.ret .none),λd d=>SV.ret0⟩) λe=>bd (dE D 12 κ e) λf h=>ao ⟨gD f,λd k=>SV.ret (h.ok k)⟩) <|
 onN st.ctorIdx 11 (λq=>Stmt.While.elim st q λt b o p=>o.casesOn (bd (dTi D 9 (dE D 12) κ t) λc hc=>bd (dSs s κ b) λf h=>ao ⟨fJ c f,λd k=>SV.while_ (hc k) (h k)⟩) λd d=>none) <|
 onN st.ctorIdx 7 (λq=>Stmt.AugAssign.elim st q λt op e pos=>onN op.ctorIdx 0 (λq=>Operator.Add.elim (motive:=λop=>bn (Pk SF (SP C r κ (.AugAssign t op e pos)))) op q <| onN t.ctorIdx 23 (λq=>Expr.Name.elim t q λx p=>bd (dE D 12 κ e) λf h=>onB (stK κ x) λhs=>onF (x==("__classdict__" :Str)) λhc=>ao ⟨sY x s9 f,λd k=>SV.aug (h.ok k) OpR.iadd (k.s_ hs) hc⟩) none) none) <|
 onN st.ctorIdx 25 (λq=>Stmt.Pass.elim st q λp=>ao ⟨sK .next,λd d=>SV.pass⟩) <|
 onN st.ctorIdx 26 (λq=>Stmt.Break.elim st q λp=>ao ⟨sK .brk,λd d=>SV.brk⟩) <|
 onN st.ctorIdx 27 (λq=>Stmt.Continue.elim st q λp=>ao ⟨sK .cont,λd d=>SV.cont⟩) none) (D.xs (dE D 12) κ st)
def dS(D:DX C)(n:Nat):dSt C r:=n.rec (λq q=>none) λq ih=>dS1 D ih
theorem dS_ok(D:DX C){st:je}(k:env.scope.kind= .function)(h:gtO (dS (r:=r) D 9 env.kindOf st)=ao f):SV C r env st f:=vR h ⟨rfl,k⟩
theorem cK(D:DX C){st:aq je}(k:env.scope.kind= .function)(h:gtO (dSs (r:=r) (dS D 9) env.kindOf st)=ao f):SVs C r env st f:=vR h ⟨rfl,k⟩
theorem aHb(D:DX C)(k:env.scope.kind= .function)(h:gtO (dE (r:=r) D 12 env.kindOf e)=ao f):EV C r env e f:=(vR h).ok ⟨rfl,k⟩
theorem aHa(D:DX C)(k:env.scope.kind= .function)(h:gtO (dTi (r:=r) D 9 (dE D 12) env.kindOf e)=ao f):TV C r env e f:=vR h ⟨rfl,k⟩
theorem dA_ok(D:DX C)(k:env.scope.kind= .function)(h:gtO (dA (r:=r) D (dE D 12) env.kindOf 4 e)=ao f):AV C r env e f:=(vR h).ok ⟨rfl,k⟩
def xBo(d:dEt C r)(κ:Kn)(e:Expr):bn (RE C r κ e):=onN e.ctorIdx 0 (λq=>Expr.BoolOp.elim e q λop vs p=>vs.casesOn none λa z=>z.casesOn none λb z=>z.casesOn (bd (d κ a) λf h=>bd (d κ b) λg h2=>op.casesOn (motive:=λop=>bn (RE C r κ (.BoolOp op [a,b] p)))
 (ao ⟨eAnd f g,λc k=>EV.and2 (h.ok k) (h2.ok k),fP rfl⟩)
 (ao ⟨eOr f g,λc k=>EV.or2 (h.ok k) (h2.ok k),fP rfl⟩)) λc c=>none) none
def xMe(d:dEt C r)(κ:Kn)(e:Expr)(k:∀ o m ap as pos f,EP C r κ o f->o.ctorIdx.beq 16=aL->(ap.endLine==pos.line)=be->bn (RE C r κ (.Call (.Attribute o m ap) as [] pos))):bn (RE C r κ e):=onN e.ctorIdx 16 (λq=>Expr.Call.elim e q λfn as ks p=>ks.casesOn (onN fn.ctorIdx 20 (λq=>Expr.Attribute.elim fn q λo m ap=>bd (d κ o) λf h=>onF (o.ctorIdx.beq 16) λhc=>onB (ap.endLine==p.line) λhk=>k o m ap as p f h hc hk) none) λa a=>none) none
def xExt(d:dEt C r)(κ:Kn)(e:Expr):bn (RE C r κ e):=xMe d κ e λo m ap as pos f h hc hk=>onS m "extend" (λq=>as.casesOn none λe z=>z.casesOn (bd (d κ e) λf2 h2=>ao ⟨oA f f2,λa k=>by subst q;exact EV.extend (h.ok k) (h2.ok k) (mshape h.pf hc (es1 h2) rfl hk) (bk1 h2.pf _ _),pfC⟩) λa a=>none) none
def pP(C:Cx)(r:Nat)(κ:Kn)(o:bn Expr)(f:EF):Prop:=∀ ⦃env:Env⦄,KE κ env->PV C r env o f
def dPi(d:dEt C r)(κ:Kn)(o:bn Expr):bn (Pk EF (pP C r κ o)):=o.casesOn (ao ⟨eK .none,λq q=>PV.none⟩) λe=>bd (d κ e) λf h=>ao ⟨f,λq k=>PV.some (h.ok k)⟩
theorem pfS{a:Expr}:Pf (.Subscript a s p):=fP rfl
def xSl(d:dEt C r)(κ:Kn)(e:Expr):bn (RE C r κ e):=onN e.ctorIdx 21 (λq=>Expr.Subscript.elim e q λa s p=>bd (d κ a) λf h=>onN s.ctorIdx 26 (λq=>Expr.Slice.elim s q λl u st q=>
 bd (dPi d κ l) λf1 h1=>bd (dPi d κ u) λf2 h2=>st.casesOn (motive:=λst=>bn (RE C r κ (.Subscript a (.Slice l u st q) p))) (ao ⟨dK f f1 f2 (eK .none),λb k=>EV.slice (h.ok k) (h1 k) (h2 k),pfS⟩) λst=>bd (d κ st) λf3 h3=>ao ⟨dK f f1 f2 f3,λb k=>EV.slice3 (h.ok k) (h1 k) (h2 k) (h3.ok k),pfS⟩) none) none
def tCha(d:dEt C r)(κ:Kn)(e:Expr):bn (RT C r κ e):=onN e.ctorIdx 15 (λq=>Expr.Compare.elim e q λl ops rs p=>ops.casesOn none λo1 z=>z.casesOn none λo2 z=>z.casesOn (rs.casesOn none λa z=>z.casesOn none λb z=>z.casesOn (bd (d κ l) λf h=>bd (d κ a) λf1 h1=>bd (d κ b) λf2 h2=>bd (dCm (C:=C) (r:=r) o1) λg hg=>bd (dCm (C:=C) (r:=r) o2) λg2 hg2=>ao ⟨tCh g g2 f f1 f2,λc k=>TV.chain (h.ok k) (h1.ok k) (h2.ok k) hg hg2 (h2.pf.beh _)⟩) λc c=>none) λc c=>none) none
def ktT:Kti C:=⟨jE C,iT,IV.tuple,gG.tuple,λq=>trivial⟩
theorem XX.mf(X:XX C)(h:jy)(a:∀ b o,C.base.heap.get? b=ao o->h.get? b=ao o):u0 C.M h:=mfacts X.kc X.km.bases (X.kc.mem.keeps a)
def ktL:Kti C:=⟨bA C,iL,IV.list,gG.list,λq=>trivial⟩
def ktR:Kti C:=⟨d8 C,iR,IV.range,gG.range,λq=>trivial⟩
def kt0(e:Expr):Kti C:=(onN e.ctorIdx 23 (λq=>Expr.Name.elim e q λx a=>onS x "inner" (λa=>ao ktR) none) <| onN e.ctorIdx 16 (λq=>Expr.Call.elim e q λfn a a a=>onN fn.ctorIdx 23 (λq=>Expr.Name.elim fn q λx a=>onS x "range" (λa=>ao ktR) none) none) none).getD ktL
theorem pfN:Pf (.Name x p):=fP rfl
def XX.xn(d:dEt C r)(t:dTt C r)(κ:Kn)(e:Expr):bn (RE C r κ e):=onN e.ctorIdx 16 (λq=>Expr.Call.elim e q λfn as ks p=>ks.casesOn (onN fn.ctorIdx 20 (λq=>Expr.Attribute.elim fn q λo m ap=>onN o.ctorIdx 23 (λq=>Expr.Name.elim o q λy np=>onS y "tuple" (λht=>onS m "__new__" (λhm=>
  onB (glK κ "tuple") λhg=>onB (ap.endLine==p.line) λhk=>onB (as.length.blt 30) λhl=>bd (dEs d κ as) λg hs=>ao ⟨aBh g,λa k=>by subst ht hm;exact EV.tnew X.mf X.g_tuple (k.gl hg).1 (hs.ok k) (hs.fl _) (mshape pfN rfl hs hl hk),pfC⟩) none) none) none) none) λa a=>none) none
def fn0(x:Str)(cv:CV C r0 v g)(gl:Glo C x v)(n:Nat:=99):Fn C:=⟨x,n,v,r0,g,cv,gl⟩
def me0(x:Str){a:dw}(cv:CV C r0 (.ref a) g)(hm:eZ.contains (x,a)=be)(n:Nat:=99):Mth C:=⟨x,n,a,r0,g,cv,hm⟩
def XX.D2(T:aq (Fn C)):DX C:=⟨X.smc,T,[],kt0,_,X.km,X.g_enumerate,X.sys,X.xn,λq q q=>none,λq q q=>none⟩
def XX.Tb:aq (Fn C):=[fn0 (r0:=0) "len" (CV.lenM X.km) X.g_len,fn0 (r0:=0) "range" CV.range X.g_range,fn0 (r0:=0) "max" CV.max X.g_max,fn0 (r0:=0) "min" CV.min X.g_min,fn0 (r0:=0) "set" CV.set X.g_set]
def aKd(X:XX C):SF:=(sK .next)
def aKc(X:XX C):SF:=(gD (aBh (esC (eN "_cls") (esC (aY (esC (eN "a") (esC (eN "b") (esC (eN "size") esN)))) esN))))
def f_new:SF:=(aB (aKd X) (aB (aKc X) (sK .next)))
theorem sv_new(P:dz)(L:dw):SVs C 1 (ie (bF (o82 P)) L 82) (cI (stB 3 4)) (f_new X):=cK (X.D2 []) rfl ⋯
def aGp(X:XX C):SF:=(sK .next)
def aGo(X:XX C):SF:=(bD "result" (aBh (esC (eN "cls") (esC (eN "iterable") esN))))
def aGn(X:XX C):SF:=(sIf (tE (aA (bN not) (aI bQ (esC (eN "result") esN)) (eK (.int 3)))) sNo (sK .next))
def aGm(X:XX C):SF:=(gD (eN "result"))
def f_make:SF:=(aB (aGp X) (aB (aGo X) (aB (aGn X) (aB (aGm X) (sK .next)))))
theorem aIi(P:dz)(L:dw):SVs C 1 (ie (bF (o89 P)) L 89) (cI (stB 3 5)) (f_make X):=cK (X.D2 X.Tb) rfl ⋯
theorem XX.newM(X:XX C):NewM C 2:=by
 intro A s ρ H a b c i j k d S ra e rc
 exact j4 X.d_new ⋯ X.b_new (λq q=>.nil) (cQ ⋯) (λL=>sv_new X X.w.params L) d S (.cons (.raw _) (.cons ra (.cons e (.cons rc .nil)))) ⟨rfl,(show _=(3<100/\(V.mat i j k=V.mat i j k/\H=H)) by kernel_rfl).mpr ⟨by decide,rfl,rfl⟩⟩
theorem XX.makeM(X:XX C):q6 C 2:=by
 intro A s ρ H a i j k b S ra
 exact j4 X.d_make ⋯ X.b_make (λq q=>.nil) (cQ ⋯) (λL=>aIi X X.w.params L) b S (.cons (.raw _) (.cons ra .nil)) ⟨rfl,(show _=(V.mat i j k=V.mat i j k/\H=H) by kernel_rfl).mpr ⟨rfl,rfl⟩⟩
theorem XX.cv_Match(X:XX C):CV C 3 (.ref aF) y8:=CV.mat X.kc X.newM
def XX.xm(d:dEt C r)(t:dTt C r)(κ:Kn)(e:Expr):bn (RE C r κ e):=r.casesOn (motive:=λr=>dEt C r->bn (RE C r κ e)) (λc=>none) (λr d=>onN e.ctorIdx 16 (λq=>Expr.Call.elim e q λfn as ks p=>ks.casesOn (orE
 (onN fn.ctorIdx 20 (λq=>Expr.Attribute.elim fn q λo m ap=>onS m "sort" (λhm=>as.casesOn (bd (d κ o) λf h=>onF (o.ctorIdx.beq 16) λhc=>onB (ap.endLine==p.line) λhk=>
  ao ⟨aG6 f,λc k=>by subst hm;exact EV.sort X.km (h.ok k) (mshape h.pf hc (es0 (C:=C) (r:=r) (κ:=κ)) rfl hk),pfC⟩) λc c=>none) none) none) <|
 onN fn.ctorIdx 23 (λq=>Expr.Name.elim fn q λl p1=>onS l "list" (λhl=>as.casesOn none λa z=>z.casesOn (onN a.ctorIdx 16 (λq=>Expr.Call.elim a q λg bs ks p5=>
  ks.casesOn (onN g.ctorIdx 23 (λq=>Expr.Name.elim g q λm p2=>onS m "map" (λhm=>bs.casesOn none λb z=>z.casesOn none λe z=>z.casesOn (onN b.ctorIdx 20 (λq=>Expr.Attribute.elim b q λo x p4=>onS x "_make" (λhx=>onN o.ctorIdx 23 (λq=>Expr.Name.elim o q λt p3=>onS t "Match" (λht=>
    onB (ble 3 r) λhr=>onB (glK κ "list") λg1=>onB (glK κ "map") λg2=>onB (glK κ "Match") λg3=>bd (d κ e) λf h=>ao ⟨eLM (tR C 2 X.makeM) (λi=>(i,0)) f,λc k=>by
     subst hl hm ht hx
     exact EV.listMap X.kc X.makeM (io hr) (h.ok k) X.g_list X.g_map X.g_Match (k.gl g1).1 (k.gl g2).1 (k.gl g3).1 rfl rfl (h.pf.star _ _) (λc=>rfl) (λc=>by show(aL || (kr _ (ee [e] _)).any (·.1))=aL;rw[h.pf.star];rfl) rfl (λc c=>rfl),pfC⟩) none) none) none) none) λc c=>none) none) none) λc c=>none) none) λc c=>none) none) none) λc c=>none) none) d
def XX.D0(M:aq (Mth C)):DX C:=⟨X.smc,fn0 "Match" X.cv_Match X.g_Match::X.Tb,M,kt0,_,X.km,X.g_enumerate,X.sys,X.xm,λq q q=>none,λq q q=>none⟩
def uG(X:XX C):SF:=(sK .next)
def uF(X:XX C):SF:=(sIf (tE (aA (oIs id) (eN "a") (eQ "a" (eN "self")))) (aB (sK (.ret .none)) (sK .next)) (sK .next))
def uE(X:XX C):SF:=(cD (eN "a") (eW "a" (eN "self")))
def uD(X:XX C):SF:=(cD (eK .none) (iY (eW "matching_blocks" (eN "self")) (eW "opcodes" (eN "self"))))
def qK:SF:=(aB (uG X) (aB (uF X) (aB (uE X) (aB (uD X) (sK .next)))))
theorem vE(P:dz)(L:dw):SVs C 1 (ie (bF (o174 P)) L 174) (cI (stB 5 3)) (qK X):=cK (X.D0 []) rfl ⋯
def iQ:CF:=iX ["self","a"] [] (qK X)
theorem wY:CV C 2 (.ref 174) (iQ X):=CV.def_ X.d_set_seq1 ⋯ X.b_set_seq1 (λq q=>.nil) (cQ ⋯) (λL=>vE X X.w.params L)
def XX.M_set_seq1:aq (Mth C):=me0 "set_seq1" (wY X) rfl::[]
def wQ(X:XX C):SF:=(bD "b" (eQ "b" (eN "self")))
def wP(X:XX C):SF:=(cD sN (iY (eW "b2j" (eN "self")) (aN "b2j")))
def chB:SF:=aB (bD "indices" (aBi (eN "b2j") (eN "elt") (b8 esN))) (aB (aX (cV (eN "indices") (eN "i"))) (sK .next))
def wO(X:XX C):SF:=(d6 (nA C) (iL (eN "b")) (b3 2 (asC (aN "i") (asC (aN "elt") asN))) chB)
def nM(X:XX C):SF:=(cD (aI cSet esN) (iY (eW "bjunk" (eN "self")) (aN "junk")))
def nK(X:XX C):SF:=(bD "isjunk" (eQ "isjunk" (eN "self")))
def nJ(X:XX C):SF:=(sIf (tE (eN "isjunk")) sNo (sK .next))
def nI(X:XX C):SF:=(cD (aI cSet esN) (iY (eW "bpopular" (eN "self")) (aN "popular")))
def nH(X:XX C):SF:=(bD "n" (aI bQ (esC (eN "b") esN)))
def nG(X:XX C):SF:=(sIf (aW (tE (eQ "autojunk" (eN "self"))) (aW (tE (aA oGe (eN "n") (eK (.int 200)))) (tK be))) sNo (sK .next))
def aBp:SF:=aB (nM X) (aB (nK X) (aB (nJ X) (aB (nI X) (aB (nH X) (aB (nG X) (sK .next))))))
def sH:SF:=(aB (wQ X) (aB (wP X) (aB (wO X) (aBp X))))
theorem xO(P:dz)(L:dw):SVs C 1 (ie (bF (o188 P)) L 188) (cI (stB 5 5)) (sH X):=cK (X.D0 X.M_set_seq1) rfl ⋯
def fX:CF:=iX ["self"] [] (sH X)
theorem yY:CV C 2 (.ref 188) (fX X):=CV.def_ X.d_chain_b ⋯ X.b_chain_b (λq q=>.nil) (cQ ⋯) (λL=>xO X X.w.params L)
def XX.M_chain_b:aq (Mth C):=me0 "_SequenceMatcher__chain_b" (yY X) rfl::X.M_set_seq1
def uC(X:XX C):SF:=(sK .next)
def uB(X:XX C):SF:=(sIf (tE (aA (oIs id) (eN "b") (eQ "b" (eN "self")))) (aB (sK (.ret .none)) (sK .next)) (sK .next))
def uA(X:XX C):SF:=(cD (eN "b") (eW "b" (eN "self")))
def t9:SF:=(uD X)
def t8(X:XX C):SF:=(cD (eK .none) (eW "fullbcount" (eN "self")))
def t7:SF:=(aX (fR (fX X) (eN "self") esN))
def qJ:SF:=(aB (uC X) (aB (uB X) (aB (uA X) (aB (t9 X) (aB (t8 X) (aB (t7 X) (sK .next)))))))
theorem vD(P:dz)(L:dw):SVs C 2 (ie (bF (o181 P)) L 181) (cI (stB 5 4)) (qJ X):=cK (X.D0 X.M_chain_b) rfl ⋯
def iP:CF:=iX ["self","b"] [] (qJ X)
theorem wX:CV C 3 (.ref 181) (iP X):=CV.def_ X.d_set_seq2 ⋯ X.b_set_seq2 (λq q=>.nil) (cQ ⋯) (λL=>vD X X.w.params L)
def XX.M_set_seq2:aq (Mth C):=me0 "set_seq2" (wX X) rfl::X.M_chain_b
def t6(X:XX C):SF:=(sK .next)
def t5:SF:=(aX (fR (iQ X) (eN "self") (esC (eN "a") esN)))
def t4:SF:=(aX (fR (iP X) (eN "self") (esC (eN "b") esN)))
def qI:SF:=(aB (t6 X) (aB (t5 X) (aB (t4 X) (sK .next))))
theorem vC(P:dz)(L:dw):SVs C 3 (ie (bF (o167 P)) L 167) (cI (stB 5 2)) (qI X):=cK (X.D0 X.M_set_seq2) rfl ⋯
def iO:CF:=iX ["self","a","b"] [] (qI X)
theorem wW:CV C 4 (.ref 167) (iO X):=CV.def_ X.d_set_seqs ⋯ X.b_set_seqs (λq q=>.nil) (cQ ⋯) (λL=>vC X X.w.params L)
def XX.M_set_seqs:aq (Mth C):=me0 "set_seqs" (wW X) rfl::X.M_set_seq2
def iJ(X:XX C):SF:=(sK .next)
def cS(X:XX C):SF:=(cD (aY (esC (eQ "a" (eN "self")) (esC (eQ "b" (eN "self")) (esC (eQ "b2j" (eN "self")) (esC (eBd .scon okS (eQ "bjunk" (eN "self"))) esN))))) (b3 4 (asC (aN "a") (asC (aN "b") (asC (aN "b2j") (asC (aN "isbjunk") asN))))))
def eI(X:XX C):SF:=(sIf (tE (aA (oIs id) (eN "ahi") (eK .none))) (aB (bD "ahi" (aI bQ (esC (eN "a") esN))) (sK .next)) (sK .next))
def eG(X:XX C):SF:=(sIf (tE (aA (oIs id) (eN "bhi") (eK .none))) (aB (bD "bhi" (aI bQ (esC (eN "b") esN))) (sK .next)) (sK .next))
def eF(X:XX C):SF:=(cL ["besti","bestj","bestsize"] (aY (esC (eN "alo") (esC (eN "blo") (esC (eK (.int 0)) esN)))))
def eE(X:XX C):SF:=(bD "j2len" sN)
def eD(X:XX C):SF:=(bD "nothing" (b8 esN))
def aHg:SF:=aB (sIf (tE (aA oGt (eN "k") (eN "bestsize"))) (aB (cL ["besti","bestj","bestsize"] (aY (esC (aA aP (aA cP (eN "i") (eN "k")) (eK (.int 1))) (esC (aA aP (aA cP (eN "j") (eN "k")) (eK (.int 1))) (esC (eN "k") esN))))) (sK .next)) (sK .next)) (sK .next)
def colB3:SF:=aB (cD (aA aP (eCv (eN "j2lenget") (esC (aA cP (eN "j") (eK (.int 1))) (esC (eK (.int 0)) esN))) (eK (.int 1))) (iY (aN "k") (jG (eN "newj2len") (eN "j")))) aHg
def uS:SF:=aB (sIf (tE (aA oLt (eN "j") (eN "blo"))) (aB (sK .cont) (sK .next)) (sK .next)) (aB (sIf (tE (aA oGe (eN "j") (eN "bhi"))) (aB (sK .brk) (sK .next)) (sK .next)) colB3)
def eB(X:XX C):SF:=(d6 (d8 C) (iR (aI b7 (esC (eN "alo") (esC (eN "ahi") esN)))) (aN "i") (aB (bD "j2lenget" (eBd .dget okD (eN "j2len"))) (aB (bD "newj2len" sN) (aB (d6 (bA C) (iL (eGet (eN "b2j") (aA aQ (eN "a") (eN "i")) (eN "nothing"))) (aN "j") uS) (aB (bD "j2len" (eN "newj2len")) (sK .next))))))
def eA(X:XX C):SF:=(fJ (aW (tE (aA oGt (eN "besti") (eN "alo"))) (aW (tE (aA oGt (eN "bestj") (eN "blo"))) (aW (q9 (tE (eCv (eN "isbjunk") (esC (aA aQ (eN "b") (aA cP (eN "bestj") (eK (.int 1)))) esN)))) (aW (tE (aA (bN id) (aA aQ (eN "a") (aA cP (eN "besti") (eK (.int 1)))) (aA aQ (eN "b") (aA cP (eN "bestj") (eK (.int 1)))))) (tK be))))) (aB (cL ["besti","bestj","bestsize"] (aY (esC (aA cP (eN "besti") (eK (.int 1))) (esC (aA cP (eN "bestj") (eK (.int 1))) (esC (aA aP (eN "bestsize") (eK (.int 1))) esN))))) (sK .next)))
def d9(X:XX C):SF:=(fJ (aW (tE (aA oLt (aA aP (eN "besti") (eN "bestsize")) (eN "ahi"))) (aW (tE (aA oLt (aA aP (eN "bestj") (eN "bestsize")) (eN "bhi"))) (aW (q9 (tE (eCv (eN "isbjunk") (esC (aA aQ (eN "b") (aA aP (eN "bestj") (eN "bestsize"))) esN)))) (aW (tE (aA (bN id) (aA aQ (eN "a") (aA aP (eN "besti") (eN "bestsize"))) (aA aQ (eN "b") (aA aP (eN "bestj") (eN "bestsize"))))) (tK be))))) (aB (sY "bestsize" s9 (eK (.int 1))) (sK .next)))
def dZ(X:XX C):SF:=(fJ (aW (tE (aA oGt (eN "besti") (eN "alo"))) (aW (tE (aA oGt (eN "bestj") (eN "blo"))) (aW (tE (eCv (eN "isbjunk") (esC (aA aQ (eN "b") (aA cP (eN "bestj") (eK (.int 1)))) esN))) (aW (tE (aA (bN id) (aA aQ (eN "a") (aA cP (eN "besti") (eK (.int 1)))) (aA aQ (eN "b") (aA cP (eN "bestj") (eK (.int 1)))))) (tK be))))) (aB (cL ["besti","bestj","bestsize"] (aY (esC (aA cP (eN "besti") (eK (.int 1))) (esC (aA cP (eN "bestj") (eK (.int 1))) (esC (aA aP (eN "bestsize") (eK (.int 1))) esN))))) (sK .next)))
def dY(X:XX C):SF:=(fJ (aW (tE (aA oLt (aA aP (eN "besti") (eN "bestsize")) (eN "ahi"))) (aW (tE (aA oLt (aA aP (eN "bestj") (eN "bestsize")) (eN "bhi"))) (aW (tE (eCv (eN "isbjunk") (esC (aA aQ (eN "b") (aA aP (eN "bestj") (eN "bestsize"))) esN))) (aW (tE (aA (bN id) (aA aQ (eN "a") (aA aP (eN "besti") (eN "bestsize"))) (aA aQ (eN "b") (aA aP (eN "bestj") (eN "bestsize"))))) (tK be))))) (aB (bD "bestsize" (aA aP (eN "bestsize") (eK (.int 1)))) (sK .next)))
def hJ(X:XX C):SF:=(gD (aI y8 (esC (eN "besti") (esC (eN "bestj") (esC (eN "bestsize") esN)))))
def c8:SF:=(aB (iJ X) (aB (cS X) (aB (eI X) (aB (eG X) (aB (eF X) (aB (eE X) (aB (eD X) (aB (eB X) (aB (eA X) (aB (d9 X) (aB (dZ X) (aB (dY X) (aB (hJ X) (sK .next))))))))))))))
theorem jC(P:dz)(L:dw):SVs C 3 (ie (bF (o196 P)) L 196) (cI (stB 5 6)) (c8 X):=cK (X.D0 X.M_set_seqs) rfl ⋯
def bW:CF:=iX ["self","alo","ahi","blo","bhi"] [] (c8 X)
theorem jF:CV C 4 (.ref 196) (bW X):=CV.def_ X.d_find_longest_match ⋯ X.b_find_longest_match (λq q=>.nil) (cQ ⋯) (λL=>jC X X.w.params L)
def XX.M_find_longest_match:aq (Mth C):=me0 "find_longest_match" (jF X) rfl::X.M_set_seqs
def hI(X:XX C):SF:=(sK .next)
def cE(X:XX C):SF:=(gD (eQ "matching_blocks" (eN "self")))
def g9:SF:=(sIf (tE (aA (oIs not) (eQ "matching_blocks" (eN "self")) (eK .none))) (aB (cE X) (sK .next)) (sK .next))
def dX(X:XX C):SF:=(cL ["la","lb"] (aY (esC (aI bQ (esC (eQ "a" (eN "self")) esN)) (esC (aI bQ (esC (eQ "b" (eN "self")) esN)) esN))))
def bZ(X:XX C):SF:=(bD "queue" (b8 (esC (aY (esC (eK (.int 0)) (esC (eN "la") (esC (eK (.int 0)) (esC (eN "lb") esN))))) esN)))
def bY(X:XX C):SF:=(bD "matching_blocks" (b8 esN))
def gP2:SF:=aB (aX (cV (eN "queue") (aY (esC (aA aP (eN "i") (eN "k")) (esC (eN "ahi") (esC (aA aP (eN "j") (eN "k")) (esC (eN "bhi") esN))))))) (sK .next)
def gJ:SF:=aB (sIf (aW (tE (aA oLt (aA aP (eN "i") (eN "k")) (eN "ahi"))) (aW (tE (aA oLt (aA aP (eN "j") (eN "k")) (eN "bhi"))) (tK be))) gP2 (sK .next)) (sK .next)
def gP1:SF:=aB (aX (cV (eN "queue") (aY (esC (eN "alo") (esC (eN "i") (esC (eN "blo") (esC (eN "j") esN))))))) (sK .next)
def gH:SF:=aB (sIf (aW (tE (aA oLt (eN "alo") (eN "i"))) (aW (tE (aA oLt (eN "blo") (eN "j"))) (tK be))) gP1 (sK .next)) gJ
def gA:SF:=aB (aX (cV (eN "matching_blocks") (eN "x"))) gH
def gI(X:XX C):SF:=aB (sIf (tE (eN "k")) gA (sK .next)) (sK .next)
def gF:SF:=aB (cD (fR (bW X) (eN "self") (esC (eN "alo") (esC (eN "ahi") (esC (eN "blo") (esC (eN "bhi") esN))))) (iY (b3 3 (asC (aN "i") (asC (aN "j") (asC (aN "k") asN)))) (aN "x"))) (gI X)
def gB:SF:=aB (cD (ePop (eN "queue")) (b3 4 (asC (aN "alo") (asC (aN "ahi") (asC (aN "blo") (asC (aN "bhi") asN)))))) (gF X)
def bX:SF:=(fJ (tE (eN "queue")) (gB X))
def dW(X:XX C):SF:=(aX (aG6 (eN "matching_blocks")))
def dV(X:XX C):SF:=(cD (eK (.int 0)) (iY (aN "i1") (iY (aN "j1") (aN "k1"))))
def dU(X:XX C):SF:=(bD "non_adjacent" (b8 esN))
def nP:SF:=aB (aX (cV (eN "non_adjacent") (aY (esC (eN "i1") (esC (eN "j1") (esC (eN "k1") esN)))))) (sK .next)
def cH(X:XX C):SF:=(sIf (tE (eN "k1")) nP (sK .next))
def nS:SF:=aB (cL ["i1","j1","k1"] (aY (esC (eN "i2") (esC (eN "j2") (esC (eN "k2") esN))))) (sK .next)
def cJ:SF:=(d6 (bA C) (iL (eN "matching_blocks")) (b3 3 (asC (aN "i2") (asC (aN "j2") (asC (aN "k2") asN)))) (aB (sIf (aW (tE (aA (bN id) (aA aP (eN "i1") (eN "k1")) (eN "i2"))) (aW (tE (aA (bN id) (aA aP (eN "j1") (eN "k1")) (eN "j2"))) (tK be))) (aB (sY "k1" s9 (eN "k2")) (sK .next)) (aB (cH X) nS)) (sK .next)))
def bS(X:XX C):SF:=(aX (cV (eN "non_adjacent") (aY (esC (eN "la") (esC (eN "lb") (esC (eK (.int 0)) esN))))))
def cG:SF:=(cD (eLM (tR C 2 X.makeM) (λi=>(i,0)) (eN "non_adjacent")) (eW "matching_blocks" (eN "self")))
def gR12:SF:=aB (cG X) (aB (cE X) (sK .next))
def gR6:SF:=aB (dW X) (aB (dV X) (aB (dU X) (aB (cJ X) (aB (cH X) (aB (bS X) (gR12 X))))))
def gR2:SF:=aB (dX X) (aB (bZ X) (aB (bY X) (aB (bX X) (gR6 X))))
def eV:SF:=(aB (hI X) (aB (g9 X) (gR2 X)))
theorem iB(P:dz)(L:dw):SVs C 4 (ie (bF (o203 P)) L 203) (cI (stB 5 7)) (eV X):=cK (X.D0 X.M_find_longest_match) rfl ⋯
def bO:CF:=iX ["self"] [] (eV X)
theorem eS:CV C 5 (.ref 203) (bO X):=CV.def_ X.d_get_matching_blocks ⋯ X.b_get_matching_blocks (λq q=>.nil) (cQ ⋯) (λL=>iB X X.w.params L)
def XX.M_get_matching_blocks:aq (Mth C):=me0 "get_matching_blocks" (eS X) rfl::X.M_find_longest_match
def n8(X:XX C):SF:=(sK .next)
def n7(X:XX C):SF:=(sIf (tE (aA (oIs not) (eQ "opcodes" (eN "self")) (eK .none))) (aB (gD (eQ "opcodes" (eN "self"))) (sK .next)) (sK .next))
def jA(X:XX C):SF:=(cD (eK (.int 0)) (iY (aN "i") (aN "j")))
def i9(X:XX C):SF:=(cD (b8 esN) (iY (eW "opcodes" (eN "self")) (aN "answer")))
def oP2:SF:=aB (aX (cV (eN "answer") (aY (esC (eK (.str "equal")) (esC (eN "ai") (esC (eN "i") (esC (eN "bj") (esC (eN "j") esN)))))))) (sK .next)
def oP1:SF:=aB (aX (cV (eN "answer") (aY (esC (eN "tag") (esC (eN "i") (esC (eN "ai") (esC (eN "j") (esC (eN "bj") esN)))))))) (sK .next)
def oR3:SF:=aB (sIf (tE (eN "size")) oP2 (sK .next)) (sK .next)
def oR2:SF:=aB (cL ["i","j"] (aY (esC (aA aP (eN "ai") (eN "size")) (esC (aA aP (eN "bj") (eN "size")) esN)))) oR3
def oR:SF:=aB (sIf (tE (eN "tag")) oP1 (sK .next)) oR2
def i8:SF:=(d6 (bA C) (iL (fR (bO X) (eN "self") esN)) (b3 3 (asC (aN "ai") (asC (aN "bj") (asC (aN "size") asN)))) (aB (bD "tag" (eK (.str ""))) (aB (sIf (aW (tE (aA oLt (eN "i") (eN "ai"))) (aW (tE (aA oLt (eN "j") (eN "bj"))) (tK be))) (aB (bD "tag" (eK (.str "replace"))) (sK .next)) (aB (sIf (tE (aA oLt (eN "i") (eN "ai"))) (aB (bD "tag" (eK (.str "delete"))) (sK .next)) (aB (sIf (tE (aA oLt (eN "j") (eN "bj"))) (aB (bD "tag" (eK (.str "insert"))) (sK .next)) (sK .next)) (sK .next))) (sK .next))) oR)))
def i7(X:XX C):SF:=(gD (eN "answer"))
def kY:SF:=(aB (n8 X) (aB (n7 X) (aB (jA X) (aB (i9 X) (aB (i8 X) (aB (i7 X) (sK .next)))))))
theorem pF(P:dz)(L:dw):SVs C 5 (ie (bF (o210 P)) L 210) (cI (stB 5 8)) (kY X):=cK (X.D0 X.M_get_matching_blocks) rfl ⋯
def bU:CF:=iX ["self"] [] (kY X)
theorem j6:CV C 6 (.ref 210) (bU X):=CV.def_ X.d_get_opcodes ⋯ X.b_get_opcodes (λq q=>.nil) (cQ ⋯) (λL=>pF X X.w.params L)
def XX.M_get_opcodes:aq (Mth C):=me0 "get_opcodes" (j6 X) rfl::X.M_get_matching_blocks
def aGu(X:XX C):SF:=(sK .next)
def aGt(X:XX C):SF:=(cD (eN "isjunk") (eW "isjunk" (eN "self")))
def aGs(X:XX C):SF:=(cD (eK .none) (iY (eW "a" (eN "self")) (eW "b" (eN "self"))))
def aGr(X:XX C):SF:=(cD (eN "autojunk") (eW "autojunk" (eN "self")))
def aGq:SF:=(aX (fR (iO X) (eN "self") (esC (eN "a") (esC (eN "b") esN))))
def yQ:SF:=(aB (aGu X) (aB (aGt X) (aB (aGs X) (aB (aGr X) (aB (aGq X) (sK .next))))))
theorem zO(P:dz)(L:dw):SVs C 4 (ie (bF (o160 P)) L 160) (cI (stB 5 1)) (yQ X):=cK (X.D0 X.M_get_opcodes) rfl ⋯
def y6:CF:=iX ["self","isjunk","a","b","autojunk"] [.bool be] (yQ X)
def aBr:CF:=iX ["self","isjunk","a","b","autojunk"] [] (yQ X)
theorem XX.cc_init:CC C 5 (.ref 160) (y6 X):=λhr S hu e=>j4 X.d_init ⋯ X.b_init1 (λq q=>.cons (.bool be) .nil) (cQ ⋯) (λL=>zO X X.w.params L) hr S hu e
theorem XX.cc_init4:CC C 5 (.ref 160) (aBr X):=λhr S hu e=>j4 X.d_init ⋯ X.b_init (λq q=>.nil) (cQ ⋯) (λL=>zO X X.w.params L) hr S hu e
def XX.c_SM:CF:=cNew (y6 X)
def XX.c_SM4:CF:=cNew (aBr X)
theorem XX.cv_SM:CV C 6 (.ref d4) X.c_SM:=CV.sm X.kc X.cc_init
theorem XX.cv_SM4:CV C 6 (.ref d4) X.c_SM4:=CV.sm X.kc X.cc_init4
def aAz(X:XX C):SF:=(sK .next)
def aAy:SF:=(bD "codes" (fR (bU X) (eN "self") esN))
def oQ(X:XX C):SF:=(sIf (q9 (tE (eN "codes"))) (aB (bD "codes" (b8 (esC (aY (esC (eK (.str "equal")) (esC (eK (.int 0)) (esC (eK (.int 1)) (esC (eK (.int 0)) (esC (eK (.int 1)) esN)))))) esN))) (sK .next)) (sK .next))
def oP(X:XX C):SF:=(sIf (tE (aA (bN id) (aA aQ (aA aQ (eN "codes") (eK (.int 0))) (eK (.int 0))) (eK (.str "equal")))) (aB (cD (aA aQ (eN "codes") (eK (.int 0))) (b3 5 (asC (aN "tag") (asC (aN "i1") (asC (aN "i2") (asC (aN "j1") (asC (aN "j2") asN))))))) (aB (cD (aY (esC (eN "tag") (esC (aI mU (esC (eN "i1") (esC (aA cP (eN "i2") (eN "n")) esN))) (esC (eN "i2") (esC (aI mU (esC (eN "j1") (esC (aA cP (eN "j2") (eN "n")) esN))) (esC (eN "j2") esN)))))) (jG (eN "codes") (eK (.int 0)))) (sK .next))) (sK .next))
def oO(X:XX C):SF:=(sIf (tE (aA (bN id) (aA aQ (aA aQ (eN "codes") (n9 (eK (.int 1)))) (eK (.int 0))) (eK (.str "equal")))) (aB (cD (aA aQ (eN "codes") (n9 (eK (.int 1)))) (b3 5 (asC (aN "tag") (asC (aN "i1") (asC (aN "i2") (asC (aN "j1") (asC (aN "j2") asN))))))) (aB (cD (aY (esC (eN "tag") (esC (eN "i1") (esC (aI qW (esC (eN "i2") (esC (aA aP (eN "i1") (eN "n")) esN))) (esC (eN "j1") (esC (aI qW (esC (eN "j2") (esC (aA aP (eN "j1") (eN "n")) esN))) esN)))))) (jG (eN "codes") (n9 (eK (.int 1))))) (sK .next))) (sK .next))
def tZ(X:XX C):SF:=(bD "nn" (aA aP (eN "n") (eN "n")))
def tY(X:XX C):SF:=(bD "group" (b8 esN))
def gR3:SF:=aB (oP X) (aB (oO X) (aB (tZ X) (aB (tY X) (sK .next))))
def aGg:SF:=(aB (aAz X) (aB (aAy X) (aB (oQ X) (gR3 X))))
def g_it(X:XX C):EF:=(eN "codes")
def aGf(X:XX C):AF:=(b3 5 (asC (aN "tag") (asC (aN "i1") (asC (aN "i2") (asC (aN "j1") (asC (aN "j2") asN))))))
def g_fc(X:XX C):TF:=(aW (tE (aA (bN id) (eN "tag") (eK (.str "equal")))) (aW (tE (aA oGt (aA cP (eN "i2") (eN "i1")) (eN "nn"))) (tK be)))
def g_f1(X:XX C):SF:=(aX (cV (eN "group") (aY (esC (eN "tag") (esC (eN "i1") (esC (aI qW (esC (eN "i2") (esC (aA aP (eN "i1") (eN "n")) esN))) (esC (eN "j1") (esC (aI qW (esC (eN "j2") (esC (aA aP (eN "j1") (eN "n")) esN))) esN))))))))
def g_fy(X:XX C):EF:=(eN "group")
def g_f2(X:XX C):SF:=(aB (bD "group" (b8 esN)) (aB (cL ["i1","j1"] (aY (esC (aI mU (esC (eN "i1") (esC (aA cP (eN "i2") (eN "n")) esN))) (esC (aI mU (esC (eN "j1") (esC (aA cP (eN "j2") (eN "n")) esN))) esN)))) (sK .next)))
def g_f3(X:XX C):SF:=(aX (cV (eN "group") (aY (esC (eN "tag") (esC (eN "i1") (esC (eN "i2") (esC (eN "j1") (esC (eN "j2") esN))))))))
def aA0(X:XX C):TF:=(aW (tE (eN "group")) (aW (q9 (aW (tE (aA (bN id) (aI bQ (esC (eN "group") esN)) (eK (.int 1)))) (aW (tE (aA (bN id) (aA aQ (aA aQ (eN "group") (eK (.int 0))) (eK (.int 0))) (eK (.str "equal")))) (tK be)))) (tK be)))
def g_fy2(X:XX C):EF:=(eN "group")
def gfn:GFn:= {pre:=aGg X,it:=g_it X,tgt:=aGf X,fc:=g_fc X,f1:=g_f1 X,fy:=g_fy X,f2:=g_f2 X,f3:=g_f3 X,fc2:=aA0 X,fy2:=g_fy2 X}
theorem XX.gv(L:dw):GV C 6 (gsh X.w.params) (gfn X) ((gsh X.w.params).envL L) where
 pre:=(cK (X.D0 X.M_get_opcodes) rfl ⋯)
 it:=(aHb (X.D0 X.M_get_opcodes) rfl ⋯)
 tgt:=(dA_ok (X.D0 X.M_get_opcodes) rfl ⋯)
 fc:=(aHa (X.D0 X.M_get_opcodes) rfl ⋯)
 f1:=(dS_ok (X.D0 X.M_get_opcodes) rfl ⋯)
 fy:=(aHb (X.D0 X.M_get_opcodes) rfl ⋯)
 f2:=(cK (X.D0 X.M_get_opcodes) rfl ⋯)
 f3:=(dS_ok (X.D0 X.M_get_opcodes) rfl ⋯)
 fc2:=(aHa (X.D0 X.M_get_opcodes) rfl ⋯)
 fy2:=(aHb (X.D0 X.M_get_opcodes) rfl ⋯)
 hs:=λq=>rfl
 co:=rfl
 ia:=rfl
theorem XX.dG:Def C (gsh X.w.params).fa (gsh X.w.params).fd (gsh X.w.params).body:=((by intro fd;kernel_rfl:∀(fd:ty),(gshOf fd 218 (cI (stB 5 9)) 7).body=cI (stB 5 9)) (bF (vV X.w.params))).symm▸X.d_get_grouped_opcodes
def cA(X:XX C):CF:=cGen ["self","n"] []
def iW(X:XX C):CF:=cGen ["self","n"] [.int 3]
theorem iK:CV C 7 (.ref 218) (cA X):=CV.gen X.gc X.dG ⋯ X.b_get_grouped_opcodes (λq q=>.nil) (aEx ⋯)
theorem hU:CV C 7 (.ref 218) (iW X):=CV.gen X.gc X.dG ⋯ X.b_get_grouped_opcodes1 (λq q=>.cons (.int 3 534) .nil) (aEx ⋯)
def XX.ktg:Kti C:=⟨l4 X.gc 6 X.gv,iG,IV.gen X.gc X.gv,gG.gen X.gc X.gv,λq=>trivial⟩
def XX.ktl(e:Expr):Kti C:=(onN e.ctorIdx 16 (λq=>Expr.Call.elim e q λfn a a a=>onN fn.ctorIdx 20 (λq=>Expr.Attribute.elim fn q λa x a=>onS x "get_grouped_opcodes" (λa=>ao X.ktg) none) none) none).getD (kt0 e)
def XX.T1:aq (Fn C):=fn0 "list" (CV.listG X.gc X.gv (r:=8) (c5 8)) X.g_list::fn0 "SequenceMatcher" X.cv_SM X.g_SequenceMatcher 3::fn0 "SequenceMatcher" X.cv_SM4 X.g_SequenceMatcher 4::X.Tb
def XX.M1:aq (Mth C):=[me0 "get_grouped_opcodes" (iK X) rfl 1,me0 "get_grouped_opcodes" (hU X) rfl 0,me0 "get_opcodes" (j6 X) rfl,me0 "get_matching_blocks" (eS X) rfl]
def V.ii:V->bn Int | .int i=>ao i |_=>Option.none
def mO(xs:aq V):aq V->bn cw:=xs.rec (λq=>none) λx q ih ys=>ys.casesOn none λy ys=>x.ii.bind λa=>y.ii.bind λb=>bif decide (a=b) then ih ys else ao (decide (a<b))
def V.lt(u v:V):bn cw:=u.tp.bind λxs=>v.tp.bind (mO xs)
theorem yM{x:V}{a:Int}(h:x.ii=ao a):x= .int a:=by
 cases x with
 |int i=>exact cu V.int (Option.some.inj h)
 |_=>cases h
theorem xJ{x:V}(h:x.tp=ao xs):x= .tup xs:=by
 cases x with
 |tup i=>exact cu V.tup (Option.some.inj h)
 |_=>cases h
inductive LexC(x y:V)(xs ys:aq V)(t:cw):Prop
 |mk {a b:Int} (z1:x= .int a) (z2:y= .int b) (k:(a=b/\mO xs ys=ao t)\/(a≠b/\t=decide (a<b)))
theorem tN(h:mO (x::xs) (y::ys)=ao t):LexC x y xs ys t:=by
 refine xEA (bt.mp h) λa c h=>xEA (bt.mp h) λb d h=>⟨yM c,yM d,?_⟩
 by_cases e:a=b
 ·rw[bp e]at h;exact .inl ⟨e,h⟩
 ·rw[bw e]at h;exact .inr ⟨e,(Option.some.inj h).symm⟩
theorem mM{a b:Int}:mO (.int a::xs) (.int b::ys)=bif decide (a=b) then mO xs ys else ao (decide (a<b)):=rfl
theorem aCo:∀ {xs ys:aq V},mO xs ys=ao be->mO ys xs=ao aL:=λ{xs}=>by
 induction xs with
 |nil=>intro ys h;cases h
 |cons x xs f=>
  intro ys h
  cases ys with
  |nil=>cases h
  |cons y ys=>
   rcases tN h with @⟨a,b,c,d,k |k⟩
   ·exact rwL c (rwL d (rwL mM (rwL (bp k.1.symm) (f k.2))))
   ·exact rwL c (rwL d (rwL mM (rwL (bw (λe=>k.1 e.symm)) (cu ao (bw (lr.mpr (ip (cn k.2.symm))))))))
theorem aJu:∀ {xs ys d:aq V},mO xs ys=ao be->mO ys d=ao be->mO xs d=ao be:=λ{xs}=>by
 induction xs with
 |nil=>intro ys d h;cases h
 |cons x xs l=>
  intro ys d h g
  cases ys with
  |nil=>cases h
  |cons y ys=>
   cases d with
   |nil=>cases g
   |cons z d=>
    rcases tN h with @⟨a,b,j,n,k⟩
    rcases tN g with @⟨o,c,e,i,m⟩
    cases n.symm.trans e
    rw[j,i,mM]
    rcases k with k |k
    ·rcases m with m |m
     ·exact rwL (bp (k.1.trans m.1)) (l k.2 m.2)
     ·exact rwL k.1 (rwL (bw m.1) (cu ao m.2.symm))
    ·rcases m with m |m
     ·exact rwR m.1 (rwL (bw k.1) (cu ao k.2.symm))
     ·have f:=cn m.2.symm
      exact rwL (bw (Int.ne_of_lt (Int.lt_trans (cn k.2.symm) f))) (cu ao (bp (Int.lt_trans (cn k.2.symm) f)))
inductive LtI(u v:V)(t:cw):Prop
 |mk {xs ys:aq V} (h1:u= .tup xs) (h2:v= .tup ys) (h:mO xs ys=ao t)
theorem tJ(h:u.lt v=ao t):LtI u v t:=by
 exact xEA (bt.mp h) λxs b h=>xEA (bt.mp h) λys a h=>⟨xJ b,xJ a,h⟩
theorem tL{v:V}(h:u.lt v=ao be):v.lt u=ao aL:=by
 cases tJ h with
 |mk b a h=>
  subst b a
  exact aCo h
theorem lt_tr{u:V}(h:u.lt v=ao be)(g:v.lt w=ao be):u.lt w=ao be:=by
 cases tJ h with
 |mk c d h=>
  cases tJ g with
  |mk a b g=>
   subst c d b
   exact rwR a (aJu h g)
theorem lex_ok{b:cw}(q:Q t s):∀ {xs ys:aq V}{d vs:aq bz}{i:Nat},VRs ρ s.heap d xs->VRs ρ s.heap vs ys->mO xs ys=ao t->KatLex prog w A b l Q (d.zip vs) i s:=λ{xs}=>by
 induction xs with
 |nil=>intro ys d vs i _ _ e;cases e
 |cons x xs o=>
  intro ys d vs i g f e
  cases ys with
  |nil=>cases e
  |cons y ys=>
   rcases tN e with @⟨a,c,n,p,k⟩
   subst n p
   cases g with
   |cons g m=>cases f with
    |cons f j=>
     cases g;cases f
     refine kat_cons (wpAny_eqBool_int ?_)
     rcases k with k |k
     ·exact rwL (show (a==c)=be from kb.mpr k.1) (kat_yes (o m j k.2))
     ·exact rwL (show (a==c)=aL from m2.mpr k.1) (kat_no ((by
       intro b x y t u Q E h
       cases b with
       |true=>exact oneLt_int h
       |false=>exact kat_one _ _ (lt_int h):∀{b:cw}{x y:Int}{t u:Tok}{Q:cw->bv->Prop}{E:bz->bv->Prop}(h:Q (decide (x<y)) s),bI (h9 prog w) A (oneLt' b (.int x t) (.int y u)) Q E s) (k.2▸q)))
theorem aC9(rs:VRs ρ h c vs)(d:q<vs.length)(e:vs.getD q V.none= .tup xs):∃ a ys n,c.getD q Value.none= .ref a/\h.get? a=ao {cls:=.type "tuple",data:=.seq ys n}/\VRs ρ h ys.toList xs:=by
 refine xEA (rs.get (cg d)) λu hu b=>?_
 rw[c4,cg d]at e
 refine rwL c4 (rwL hu ?_)
 replace b:VR ρ h u (.tup xs):=e▸b
 exact b.inv
def hdI(v:V):bn Int:=(v.tp.bind List.head?).bind V.ii
theorem aJr:∀ {a b:aq V},a.Perm b->a.Pairwise (λx y=>x.lt y=ao be)->b.Pairwise (λx y=>x.lt y=ao be)->a=b:=λ{a}=>by
 induction a with
 |nil=>exact λp q q=>(List.Perm.nil_eq p)
 |cons x a i=>
  intro b p c d
  cases b with
  |nil=>exact ca p.length_eq nofun
  |cons y b=>
   have e:x=y:=by
    rcases du.mp (p.mem_iff.mp ce) with e |h
    ·exact e
    ·rcases du.mp (p.mem_iff.mpr ce) with e |j
     ·exact e.symm
     ·have f:=(c3.mp c).1 y j
      have g:=(c3.mp d).1 x h
      cases ((tL f)▸g)
   subst e
   exact cu (x::·) (i p.cons_inv (c3.mp c).2 (c3.mp d).2)
def ltN(vs:aq V)(i j:Nat):cw:=(vs.getD i V.none).lt (vs.getD j V.none)==ao be
theorem aAo{ws:aq V}(p:ws.Perm vs)(h:ws.Pairwise λx y=>x.lt y=ao be):Ord vs.length (ltN vs) where
 tr:=λx y z k l=>kb.mpr (lt_tr (kb.mp k) (kb.mp l))
 tot:=λx y g m e=>by
  have c:∀ i j,i<j->j<vs.length->ltN vs i j=be\/ltN vs j i=be:=λi j f d=>by
   delta ltN
   exact rwL c4 (rwL c4 (rwL (cg d) (rwL (cg (kq f d)) ((iy.mp ((p.pairwise_iff λ{a b} q=>q.symm).mp (h.imp λq=>.inl q):vs.Pairwise λa b=>a.lt b=ao be\/b.lt a=ao be) i j (kq f d) d f).imp kb.mpr kb.mpr))))
  exact(Nat.lt_or_gt_of_ne e).elim (λq=>c x y q m) λq=>(c y x q g).symm
 asy:=λx y h=>by
  delta ltN
  rw[(tL (kb.mp h))];rfl
def kK:CF:=λvs H Q=>Lf ((one vs).bind (lst H)) λxs=>xs.length<64/\(∀ v∈xs,(hdI v).isSome=be)/\∃ ws:aq V,ws.Perm xs/\ws.Pairwise (λx y=>x.lt y=ao be)/\Q (.ref H.length) (H++[.list ws])
theorem CV.sorted:CV C r (.builtin "sorted") kK:=⟨cR,λ{A s ρ H us vs Q} hr S rs q=>q.elim λxs e ⟨I,hd,J,G,pw,q⟩=>by
 refine xEA (bt.mp e) λx hx hl=>xEA (jO rs hx) λu z ru=>rwL z ?_
 refine bV (b9 S ru hl) λad c z il rl=>rwL z ?_
 refine Calls.call_function_entry kind_sorted plain_sorted entry_sorted (args_sorted1 _) (zzB (zzP ?_))
 have ll:c.toList.length<=uR:=by rw[dx,Array.length_toList,rl.sz];exact Nat.le_trans (Nat.le_of_lt I) (by decide)
 refine zzB (collect_list (rwR (by simp:c=c.toList.toArray) il) (zzB (ui ?_ ll)) ll)
 have B:((s.heap.push (ml "list" #[] 0)).update s.heap.objs.size (Obj.mapSeq (·++c.toList.toArray))).objs.size=s.heap.objs.size+1:=by
  rw[Heap.size_update,size_push']
 have K:(((s.heap.push (ml "list" #[] 0)).update s.heap.objs.size (Obj.mapSeq (·++c.toList.toArray))).push (ml "list" c.toList.toArray 0)).get? (s.heap.objs.size+1)=ao (ml "list" c.toList.toArray 0):=by
  exact rwR B (Heap.get?_push_size _ rfl)
 have d:∀ b o,s.heap.get? b=ao o->(((s.heap.push (ml "list" #[] 0)).update s.heap.objs.size (Obj.mapSeq (·++c.toList.toArray))).push (ml "list" c.toList.toArray 0)).get? b=ao o:=λb o q=>by
  have D:=Heap.lt_size q
  exact rwL (Heap.get?_push_ne _ _ _ (by exact rwL B (gq (Nat.lt_succ_of_lt D)))) (rwL (Heap.get?_update_ne _ _ _ _ (gq D)) (rwL (Heap.get?_push_ne _ _ _ (gq D)) q))
 refine rwL B ?_
 have g:=S.grow (k:=s.toks) (l:=⟨s.heap.objs.size+1,s.heap.objs.size+1,none⟩) (m:=.list xs) d (Heap.get?_none_of_le (uP _)) (Heap.get?_none_of_le (uP _)) rfl ⟨rfl,rfl,_,_,K,by exact rwL List.toList_toArray (rl.mono (jr _ _) (cY d))⟩
 refine zzB (cb (e7 slot_list_sort ⟨_,K,rfl⟩ entry_list_sort (vH (κ:=tuples' (Value.type "int" != Value.type "tuple")) (W:=noW) (l:=⟨s.heap.objs.size+1,s.heap.objs.size+1,none⟩) g.1 S.last (by rw[gO (c5 _),ox];rfl) I (λ{N us Q} L kp rs q=>?_) (λ{N us Q i j} kp rs F E X q=>?_) (aAo G pw) (λl2=>?_) G.length_eq (λp P S=>(by
  intro vs J p h q P S
  refine aJr (.trans ?_ p.symm) ?_ h
  ·refine (P.tl.map λi=>vs.getD i V.none).trans (.of_eq (ql (by rw[bq,hB]) λi h1 L=>?_))
   rw[oq,List.getElem_range,c4,cg L];rfl
  ·refine iy.mpr λi j F E ij=>?_
   rw[bq]at F E
   have Z:=(Array.length_toList ..).trans P.sz
   have:=kb.mp (S i j ij (Z▸E))
   rw[oq,oq]
   refine xE (P.at (Z▸F)) λh1 U=>xE (P.at (Z▸E)) λh2 Y=>?_
   rw[U,Y]at this;exact this:∀{vs J:aq V}(p:J.Perm vs)(h:J.Pairwise λx y=>x.lt y=ao be){q:iz Nat}(P:Pm vs.length q)(S:Sd (ltN vs) q vs.length),(q.toList.map λi=>vs.getD i V.none)=J) G pw P S) λs' S' N'=>⟨_,rfl,zzP ⟨_,rfl,?_⟩⟩) (args_list_sort _)))
 ·obtain⟨fs,t1,t2,t3⟩:=(by
   intro ρ h us vs rs
   refine rs.ind (P:=λus vs=>(∀ v∈vs,(hdI v).isSome=be)->∃ fs,KatTups h us fs/\fs.length=us.length/\∀ f∈fs,∃ i t,f= .int i t) (λ_=>⟨[],.nil,rfl,(λ_ h=>ca h List.not_mem_nil)⟩) λ{u us v vs} r _ ih hv=>cU (ih λw hw=>hv w (b4 _ hw)) λfs h1 L N=>(ph.mp (hv v ce)).elim λi e=>xEA (bt.mp e) λx e hx=>xEA (bt.mp e) λxs e hh=>?_
   replace r:VR ρ h u (.tup xs):=xJ e▸r
   refine dQ r.inv λa c n z g rs=>?_;subst z
   refine xEA (rs.get (rwR List.head?_eq_getElem? hh)) λf R M=>?_
   replace M:VR ρ h f (.int i):=yM hx▸M
   refine M.inv.elim λt e=>⟨f::fs,.cons g rfl rfl (by exact rwR Array.getElem?_toList R) h1,cu Nat.succ L,λy T=>?_⟩
   rcases du.mp T with rfl |T
   ·exact⟨i,t,e⟩
   ·exact N y T:∀{ρ:aq Lc}{h:jy}{us:aq bz}{vs:aq V}(rs:VRs ρ h us vs),(∀ v∈vs,(hdI v).isSome=be)->∃ fs,KatTups h us fs/\fs.length=us.length/\∀ f∈fs,∃ i t,f= .int i t) rs hd
  exact kat_kind t1 (by exact rwL t2 (h8 (by decide) L)) (λf R=>by obtain⟨i,t,rfl⟩:=t3 f R;exact .now) (by decide) q
 ·have O:∀ t,(xs.getD i V.none).lt (xs.getD j V.none)=ao t->ltN xs i j=t:=λt e=>by delta ltN;rw[e];cases t<;>rfl
  obtain⟨t,ht⟩:=(((aAo G pw).tot i j F E X).elim (λz=>⟨be,kb.mp z⟩) λz=>⟨aL,tL (kb.mp z)⟩:∃ t,(xs.getD i V.none).lt (xs.getD j V.none)=ao t)
  rcases tJ ht with @⟨as,bs,U,Y,e3⟩
  obtain⟨a,xa,n,u1,g1,r1⟩:=aC9 rs F U
  obtain⟨b,xb,m,u2,g2,r2⟩:=aC9 rs E Y
  exact rwL u1 (rwL u2 (kat_lt g1 rfl g2 rfl (lex_ok (rwR (O t ht) q) r1 r2 e3)))
 ·exact (by
   intro a b p h
   cases b with
   |nil=>exact List.Perm.eq_nil p
   |cons x t=>cases t with
    |nil=>exact List.Perm.eq_singleton p
    |cons y t=>exact ca h (Nat.not_lt.mpr (mx 2 t.length)):∀{a b:aq V}(p:a.Perm b)(h:b.length<2),a=b) G l2
 ·refine⟨S',(g.2 _).trans N',VR.ref S.last,?_⟩
  rw[List.set_append_right _ _ (c5 _),ox];exact q⟩
noncomputable abbrev ZpO(h:jy)(z TI TO T:dw)(f:cw):Prop:=h.get? z=ao {cls:=.type "zip",dict:=none,data:=.fields #[rawInt T,.bool f,.bool aL,.ref TI,.ref TO],slots:= #[]}
structure ZpA(h:jy)(z TI i1 i2 l1 l2:dw)(k:Nat):Prop where
 z:∃ TO T f,ZpO h z TI TO T f/\T≠z/\∃ o,h.get? T=ao o
 TI:IsPair h TI (.ref i1) (.ref i2)
 h1:h.IsListIter i1 l1 k
 h2:h.IsListIter i2 l2 k
structure ZpN(z TI i1 i2 l1 l2:dw):Prop where
 TIz:TI≠z
 i1z:i1≠z
 i2z:i2≠z
 TIi1:TI≠i1
 TIi2:TI≠i2
 i12:i1≠i2
 l1z:l1≠z
 l1i1:l1≠i1
 l1i2:l1≠i2
 l2z:l2≠z
 l2i1:l2≠i1
 l2i2:l2≠i2
theorem lN(c:ZpO s.heap z TI d T f)(e:s.heap.get? T=ao o)(k:∀ h',ZpO h' z TI d T be->Heap.SameBut z s.heap h'->Q aL {s with heap:=h'}):
  bI (h9 prog w) A (Builtin.SmallTypes.ownedTupleIsFree (.ref z)) Q E s:=by
 refine zzB (fx c rfl rfl (?_:bI _ _ (vn ((T:Int).toNat) >>=_) _ _ _))
 rw[fo]
 refine zzB (kdx_alive e (zzB (fx c rfl (x:=.bool f) rfl ?_)))
 cases f with
 |true=>
  exact rwL (cc (show¬((Value.bool be != Value.bool be)=be) from Bool.false_ne_true)) (zzP (k _ c (Heap.SameBut.refl _ _)))
 |false=>
  exact rwL (cj (show(Value.bool aL != Value.bool be)=be from rfl)) (zzB (wpAny_setField_rec c (by simp) λh₃ a b=>zzP (k _ a b)))
theorem aBx(D:ZpN z TI i1 i2 l1 l2)(P:ZpA s.heap z TI i1 i2 l1 l2 k)(q:s.heap.IsList l1 xs)(n:s.heap.IsList l2 ys)(G:xs[k]? =ao x)(C:ys[k]? =ao y)(H:∀ h',ZpA h' z TI i1 i2 l1 l2 (k+1)->IsPair h' s.heap.objs.size x y->(∀ c o,c≠z->c≠i1->c≠i2->s.heap.get? c=ao o->h'.get? c=ao o)->Q (ao (.ref s.heap.objs.size)) {s with heap:=h'}):
  bI (h9 prog w) A (ku (.ref z)) Q E s:=by
 obtain⟨⟨v,T,f,j,nT,o,t⟩,l,B,J⟩:=P
 delta ku
 refine zzB (jv (et ⟨_,j,rfl⟩ F.slot_zip_next (e7 F.slot_zip_next ⟨_,j,rfl⟩ F.entry_zip_next ?_ (F.args_zip_next_1 _))))
 show bI _ _ (vx (.ref z) 2 >>=_) _ _ _
 refine zzB (fx j rfl (x:=.bool aL) rfl (zzB (fx j rfl rfl (zzB (gu l rfl (zzB (lN j t λh₁ i a=>?_)))))))
 simp only[iu,mq]
 rw[<-Array.forIn_toList]
 rw[jo]
 refine zzB (zzB (zzB (cb (zzB (sx (B.extBut a.extBut D.i1z) (q.extBut a.extBut D.l1z) G λh₂ h b=>zzP (zzP ?_))))))
 dsimp only
 rw[jo]
 refine zzB (zzB (cb (zzB (sx ((J.extBut a.extBut D.i2z).extBut b.extBut D.i12.symm) ((n.extBut a.extBut D.l2z).extBut b.extBut D.l2i1) C λh₃ g d=>zzP (zzP ?_)))))
 dsimp only
 refine rwL uc (zzP (zzB (wpAny_newTuple (zzP ⟨_,rfl,zzP ?_⟩) (by show 2<=uR;rw[dx];decide))))
 have m:h₃.objs.size=s.heap.objs.size:=by rw[d.1,b.1,a.1]
 have p:∀ c o,c≠z->c≠i1->c≠i2->s.heap.get? c=ao o->(h₃.push {cls:=.type "tuple",data:=.seq #[x,y]}).get? c=ao o:=λc o K c2 I e=>Heap.get?_push_of_some _ (d.extBut _ _ I (b.extBut _ _ c2 (a.extBut _ _ K e)))
 have al:∃ o,(h₃.push {cls:=.type "tuple",data:=.seq #[x,y]}).get? T=ao o:=by
  by_cases r:T=i1
  ·refine rwL r (xEA h λo e L=>?_)
   exact⟨_,Heap.get?_push_of_some _ (d.extBut _ _ D.i12 e)⟩
  ·by_cases u:T=i2
   ·refine rwL u (xEA g λo e L=>?_)
    exact⟨_,Heap.get?_push_of_some _ e⟩
   ·exact⟨_,p _ _ nT r u t⟩
 exact (rwL m (H (h₃.push {cls:=.type "tuple",data:=.seq #[x,y]}) ⟨⟨v,T,be,(Heap.get?_push_of_some _ (d.extBut _ _ D.i2z.symm (b.extBut _ _ D.i1z.symm i))),nT,al⟩,p _ _ D.TIz D.TIi1 D.TIi2 l,(h.extBut d.extBut D.i12).at λo e=>Heap.get?_push_of_some _ e,g.at λo e=>Heap.get?_push_of_some _ e⟩ (by exact rwR m (Heap.get?_push_size _ rfl)) p))
theorem aC5(p:A.handled=none)(D:ZpN z TI i1 i2 l1 l2)(P:ZpA s.heap z TI i1 i2 l1 l2 k)(j:s.heap.IsList l1 xs)(q:xs[k]? =none)(r:∀ h',(∀ c o,c≠z->c≠i1->s.heap.get? c=ao o->h'.get? c=ao o)->Q none {s with heap:=h'}):bI (h9 prog w) A (ku (.ref z)) Q E s:=by
 obtain⟨⟨v,T,f,d,nT,o,n⟩,g,l,y⟩:=P
 delta ku
 refine zzB (jv (et ⟨_,d,rfl⟩ F.slot_zip_next (e7 F.slot_zip_next ⟨_,d,rfl⟩ F.entry_zip_next ?_ (F.args_zip_next_1 _))))
 show bI _ _ (vx (.ref z) 2 >>=_) _ _ _
 refine zzB (fx d rfl (x:=.bool aL) rfl (zzB (fx d rfl rfl (zzB (gu g rfl (zzB (lN d n λh₁ h a=>?_)))))))
 simp only[iu,mq]
 rw[<-Array.forIn_toList]
 rw[jo]
 refine zzB (zzB (zzB (cb (zzB (wpAny_nextOf_list_end p (l.extBut a.extBut D.i1z) (j.extBut a.extBut D.l1z) q λh₂ e b m=>(xEA m λoe i u=>?_))))))
 exact zzB (jz ⟨oe,i,u⟩ pj (zzP (r _ λc o t c2 e=>b _ _ c2 (a.extBut _ _ t e))))
def kR(vs ws:aq V):aq V:=List.zipWith (λx y=>V.tup [x,y]) vs ws
structure ZL(s:bv)(ρ:aq Lc)(z TI i1 i2 l1 l2 D:dw)(xs ys:iz bz)(vs ws:aq V):Prop where
 N:ZpN z TI i1 i2 l1 l2
 fz:s.heap.get? z=none
 f1:s.heap.get? i1=none
 f2:s.heap.get? i2=none
 fD:s.heap.get? D=none
 Dz:D≠z
 D1:D≠i1
 D2:D≠i2
 DT:D≠TI
 L1:s.heap.IsList l1 xs
 L2:s.heap.IsList l2 ys
 r1:VRs ρ s.heap xs.toList vs
 r2:VRs ρ s.heap ys.toList ws
 el:vs.length=ws.length
 ll:vs.length<1000000
theorem aC4(Z:ZL s ρ z TI i1 i2 l1 l2 D xs ys vs ws)(h:VR ρ s.heap x v)(j:VR ρ s.heap y w)(l:vs[k]? =ao v)(p:ws[k]? =ao w)(a:∀ b o,s.heap.get? b=ao o->h'.get? b=ao o)(rs:VRs ρ h' acc.toList (kR (vs.take k) (ws.take k)))(m:IsPair h' T x y)(f:h'.get? D=ao (ml "list" acc n)):(∀ b o,s.heap.get? b=ao o->(h'.update D (Obj.mapSeq (·.push (.ref T)))).get? b=ao o)/\(∃ n,(h'.update D (Obj.mapSeq (·.push (.ref T)))).get? D=ao (ml "list" (acc.push (.ref T)) n))/\VRs ρ (h'.update D (Obj.mapSeq (·.push (.ref T)))) (acc.push (.ref T)).toList (kR (vs.take (k+1)) (ws.take (k+1))):=by
 have g:Imm h' (h'.update D (Obj.mapSeq (·.push (.ref T)))):=λb o e i=>(λb o q e=>(Heap.get?_update_ne _ _ _ _ q).trans e) b o (λq=>by
  subst q;refine cyS (f▸e) λzq=>?_;subst zq
  exact i rfl) e
 refine⟨λb o e=>(λb o q e=>(Heap.get?_update_ne _ _ _ _ q).trans e) b o (λq=>aM (Z.fD.symm.trans (q▸e))) (a b o e),⟨_,ny f (·.push (.ref T))⟩,?_⟩
 refine rwL ((by
  intro vs ws k v w c d
  delta kR
  rw[List.take_add_one,List.take_add_one,c,d,List.zipWith_append (by rw[qm,qm,qg (Nat.le_of_lt ((List.getElem?_eq_some_iff.mp c).1)),qg (Nat.le_of_lt ((List.getElem?_eq_some_iff.mp d).1))])];rfl:∀{vs ws:aq V}{k:Nat}{v w:V}(c:vs[k]? =ao v)(d:ws[k]? =ao w),kR (vs.take (k+1)) (ws.take (k+1))=kR (vs.take k) (ws.take k)++[.tup [v,w]]) l p) (rwL Array.toList_push (VRs.mono (cy _) g (rs.append (.cons (.tup m (.cons (h.mono (cy _) (cY a)) (.cons ?_ .nil))) .nil))))
 ·exact j.mono (cy _) (cY a)
theorem aH0(Z:ZL s ρ z TI i1 i2 l1 l2 D xs ys vs ws)(K:A.in1.handled=none)(w:∀ h' acc n,(∀ b o,s.heap.get? b=ao o->h'.get? b=ao o)->h'.get? D=ao (ml "list" acc n)->VRs ρ h' acc.toList (kR vs ws)->R (.ok (.ret res)) {s with heap:=h'}):
  ∀ (m k:Nat){h:jy}{acc:iz bz}{n:Nat},k+m=vs.length->(∀ b o,s.heap.get? b=ao o->h.get? b=ao o)->ZpA h z TI i1 i2 l1 l2 k->h.get? D=ao (ml "list" acc n)->VRs ρ h acc.toList (kR (vs.take k) (ws.take k))->kN C.M A (.builtin "list.extend.loop" ⟨[.ref D,.ref z,res],[]⟩) R {s with heap:=h}:=λm=>by
 induction m with
 |zero=>
  refine λk h acc n p c P v rs=>(nu PySem.F.entry_extend_loop (rwL (Around.under_plainId PySem.F.plain_extend_loop _) ?_))
  have x:k=vs.length:=p
  refine zzB (aC5 K Z.N P (Z.L1.at λo e=>c _ o e) (Array.getElem?_eq_none (by exact rwL Z.r1.sz (rwL x (c5 _)))) λh' a=>zzP ?_)
  have t:∀ {b o},h.get? b=ao o->aZ o->h'.get? b=ao o:=λ{b o} e i=>a b o (λq=>by
   subst q
   obtain⟨u,T,f,d,_⟩:=P.z
   refine cyS (d▸e) λzq=>?_;subst zq
   simp [aZ]at i) (λq=>by
   subst q
   obtain⟨B,g,l,c2⟩:=P.h1
   refine cyS (g▸e) λzq=>?_;subst zq
   exact lE l c2 i) e
  refine w h' acc n (λb o e=>a b o (λq=>aM (Z.fz.symm.trans (q▸e))) (λq=>aM (Z.f1.symm.trans (q▸e))) (c b o e)) (a _ _ Z.Dz Z.D1 v) ?_
  rw[x,List.take_length,Z.el,List.take_length]at rs
  exact rs.mono (cy _) λb o e i=>t e i
 |succ m Q=>
  intro k h acc n p c P v rs
  have kv:k<vs.length:=by exact rwR p (Nat.lt_add_of_pos_right (Nat.succ_pos m))
  have G:=Z.el▸kv
  refine nu PySem.F.entry_extend_loop (rwL (Around.under_plainId PySem.F.plain_extend_loop _) (xEA (Z.r1.get (cg kv)) λx L J=>?_))
  refine xEA (Z.r2.get (cg G)) λy H O=>?_
  refine zzB (aBx Z.N P (Z.L1.at λo e=>c _ o e) (Z.L2.at λo e=>c _ o e) (by simpa using L) (by simpa using H) λh' r U a=>?_)
  have t:∀ {b o},h.get? b=ao o->aZ o->h'.get? b=ao o:=λ{b o} e i=>a b o (λq=>by
   subst q
   obtain⟨u,T,f,d,_⟩:=P.z
   refine cyS (d▸e) λzq=>?_;subst zq
   simp [aZ]at i) (λq=>by
   subst q
   obtain⟨B,g,l,c2⟩:=P.h1
   rw[g]at e;cases e
   exact lE l c2 i) (λq=>by
   subst q
   obtain⟨B,g,l,c2⟩:=P.h2
   rw[g]at e;cases e
   exact lE l c2 i) e
  have j:=a _ _ Z.Dz Z.D1 Z.D2 v
  have E:acc.size<=1000000:=by
   have:=rs.length
   rw[Array.length_toList,kR,List.length_zipWith,qm,qm]at this
   exact this▸Nat.le_trans (Nat.min_le_left _ _) (Nat.le_trans (Nat.min_le_right _ _) (Nat.le_of_lt Z.ll))
  obtain⟨w1,⟨V,w2⟩,S⟩:=(aC4 Z J O (cg kv) (cg G) (λb o e=>a b o (λq=>aM (Z.fz.symm.trans (q▸e))) (λq=>aM (Z.f1.symm.trans (q▸e))) (λq=>aM (Z.f2.symm.trans (q▸e))) (c b o e)) (rs.mono (cy _) λb o e i=>t e i) U j)
  refine zzB (mi j rfl (zzP ⟨qe PySem.F.plain_extend_loop _,Q (k+1) (by rw[Nat.add_right_comm];exact p) w1 ⟨?_,?_,?_,?_⟩ w2 S⟩) ?_ ?_)
  ·obtain⟨u,T,f,d,nT,o,I⟩:=r.z
   have y:∀ b o,b≠D->h'.get? b=ao o->(h'.update D (Obj.mapSeq (·.push (.ref h.objs.size)))).get? b=ao o:=λb o q e=>(Heap.get?_update_ne _ _ _ _ q).trans e
   refine⟨u,T,f,y _ _ Z.Dz.symm d,nT,?_⟩
   by_cases q:T=D
   ·exact rwL q ⟨_,w2⟩
   ·exact⟨o,y _ _ q I⟩
  ·exact(Heap.get?_update_ne _ _ _ _ Z.DT.symm).trans r.TI
  ·exact r.h1.at λo e=>(Heap.get?_update_ne _ _ _ _ Z.D1.symm).trans e
  ·exact r.h2.at λo e=>(Heap.get?_update_ne _ _ _ _ Z.D2.symm).trans e
  ·exact rwL dx (Nat.le_trans E (by decide))
  ·rw[Array.size_push,dx];exact Nat.le_trans (eH E) (by decide)
theorem aFd(S:Sim C H ρ s)(G:A.handled=none)(L1:s.heap.IsList l1 xs)(L2:s.heap.IsList l2 ys)(r1:VRs ρ s.heap xs.toList vs)(r2:VRs ρ s.heap ys.toList ws)(D:vs.length=ws.length)(W:vs.length<1000000)(hs:s.heap.objs.size=k0)(B:IsZip h' (k0+4) (k0+2) (k0+3) .none)(i:IsPair h' (k0+2) (.ref k0) (.ref (k0+1)))(w:IsPair h' (k0+3) .none .none)(g1:h'.IsListIter k0 l1 0)(E:h'.IsListIter (k0+1) l2 0)(Y:h'.objs.size=k0+5)(kp:∀ b o,s.heap.get? b=ao o->h'.get? b=ao o):bI C.M A (call (.type "list") [.ref (k0+4)]) (EPo C ρ s (H++[.list (kR vs ws)]) (.ref H.length)) NoE {s with heap:=h'}:=by
 have z:l1<k0:=by refine xEA L1 λ_ e _=>?_;exact rwR hs (Heap.lt_size e)
 have x:l2<k0:=by refine xEA L2 λ_ e _=>?_;exact rwR hs (Heap.lt_size e)
 have AP:=zipApart_new z x
 have t:∀ j,s.heap.get? (k0+j)=none:=λj=>Heap.get?_none_of_le (by exact rwL hs (lq _ _))
 have Z:ZL s ρ (k0+4) (k0+2) k0 (k0+1) l1 l2 (k0+5) xs ys vs ws:=⟨⟨AP.TIz,AP.i1z,AP.i2z,AP.TIi1,AP.TIi2,AP.i12,AP.l1z,AP.l1i1,AP.l1i2,AP.l2z,AP.l2i1,AP.l2i2⟩,t 4,t 0,t 1,t 5,qu _,pn (Nat.lt_add_of_pos_right (by decide)),pn (Nat.add_lt_add_left (by decide) _),pn (Nat.add_lt_add_left (by decide) _),L1,L2,r1,r2,D,W⟩
 refine sC (by decide) (by decide) (by rw[eg,dq];kernel_rfl:fv (.type "zip") "__len__" =pure none) (by rw[eg,dq];kernel_rfl:fv (.type "zip") "__length_hint__" =pure none) ⟨_,B,rfl⟩ (λs' h q=>wpAny_pyIter_zip (h.trans B) q) (λh2 n hD a=>?_)
 rw[Y]at hD ⊢
 replace a:∀ b o,h'.get? b=ao o->h2.get? b=ao o:=a
 have c:∀ b o,s.heap.get? b=ao o->h2.get? b=ao o:=λb o e=>a _ _ (kp _ _ e)
 have done:∀ h3 acc n,(∀ b o,s.heap.get? b=ao o->h3.get? b=ao o)->h3.get? (k0+5)=ao (ml "list" acc n)->VRs ρ h3 acc.toList (kR vs ws)->EPo C ρ s (H++[.list (kR vs ws)]) (.ref H.length) (.ref (k0+5)) {s with heap:=h3}:=λh3 acc n y d X=>
  let g:=S.grow (l:=⟨k0+5,k0+5,none⟩) (m:=.list (kR vs ws)) y (t 5) (t 5) rfl ⟨rfl,rfl,_,_,d,X.mono (jr _ _) (.refl _)⟩
  ⟨_,g.1,g.2 _,VR.ref S.last⟩
 refine nu PySem.F.entry_extend_loop ?_
 rw[Around.under_plainId PySem.F.plain_extend_loop _]
 show bI _ A.in1.in1 (ku (.ref (k0+4)) >>=_) _ _ {s with heap:=h2}
 have k:=a _ _ B
 cases p:vs with
 |nil=>
  refine zzB (wpAny_pyNext_zip_end G AP k (a _ _ i) (a _ _ w) (g1.at λo e=>a _ o e) (E.at λo e=>a _ o e) (L1.at λo e=>c _ o e) (L2.at λo e=>c _ o e) (.inl (Array.getElem?_eq_none (by exact rwL r1.sz (rwL p (c5 _))))) λh3 r=>zzP ⟨rfl,?_⟩)
  have f:∀ j b,s.heap.get? b=ao j->(b≠k0+4/\b≠k0+3/\b≠k0/\b≠k0+1):=λj b e=>by
   have:=hs▸Heap.lt_size e
   exact⟨gq (pu _ this),gq (pu _ this),gq this,gq (pu _ this)⟩
  exact rwR p (done h3 #[] n (λb o e=>r _ _ (f _ _ e).1 (f _ _ e).2.1 (f _ _ e).2.2.1 (f _ _ e).2.2.2 (c _ _ e)) (r _ _ Z.Dz (pn (Nat.add_lt_add_left (by decide) _)) Z.D1 Z.D2 hD) (rwL p (rwL List.zipWith_nil_left .nil:VRs ρ h3 [] (List.zipWith _ [] ws))))
 |cons v vt=>
  have kv:vs[0]? =ao v:=by rw[p];rfl
  have J:0<ws.length:=by exact rwR D (rwL p (Nat.succ_pos _))
  refine rwR p (xEA (r1.get kv) λx hx O=>xEA (r2.get (cg J)) λy U P=>?_)
  refine zzB (wpAny_pyNext_zip_item AP k (a _ _ i) (a _ _ w) (g1.at λo e=>a _ o e) (E.at λo e=>a _ o e) (L1.at λo e=>c _ o e) (L2.at λo e=>c _ o e) (by simpa using hx) (by simpa using U) λh3 V a2 L Q I a6 r=>?_)
  have f:∀ j b,s.heap.get? b=ao j->(b≠k0+4/\b≠k0+3/\b≠k0/\b≠k0+1):=λj b e=>by
   have:=hs▸Heap.lt_size e
   exact⟨gq (pu _ this),gq (pu _ this),gq this,gq (pu _ this)⟩
  have d:=r _ _ Z.Dz (pn (Nat.add_lt_add_left (by decide) _)) Z.D1 Z.D2 hD
  obtain⟨w1,⟨n',w2⟩,R⟩:=aC4 Z O P kv (cg J) (λb o e=>r _ _ (f _ _ e).1 (f _ _ e).2.1 (f _ _ e).2.2.1 (f _ _ e).2.2.2 (c _ _ e)) (by exact(.nil:VRs ρ h3 [] _)) I d
  have u:∀ b o,b≠k0+5->h3.get? b=ao o->(h3.update (k0+5) (Obj.mapSeq (·.push (.ref h2.objs.size)))).get? b=ao o:=λb o q e=>(Heap.get?_update_ne _ _ _ _ q).trans e
  refine zzB (mi d rfl (zzP ⟨qe PySem.F.plain_extend_loop _,aH0 (A:=A.in1) Z G (λh4 acc T N q2 K=>⟨rfl,done h4 acc T N q2 K⟩) (vs.length-1) 1 (Nat.add_sub_cancel' (by exact rwL p (eH (hN _)))) w1 ⟨⟨k0+3,h2.objs.size,aL,u _ _ Z.Dz.symm V,pn (Heap.lt_size k),⟨_,u _ _ (pn (Heap.lt_size hD)) I⟩⟩,?_,?_,?_⟩ w2 R⟩) (hN _) (by rw[dx,Array.size_push];decide))
  ·exact u _ _ Z.DT.symm (r _ _ AP.TIz AP.TITO AP.TIi1 AP.TIi2 (a _ _ i))
  ·exact L.at λo e=>u _ o Z.D1.symm e
  ·exact Q.at λo e=>u _ o Z.D2.symm e
def two(vs:aq V):bn (V×V):=vs.casesOn none λv l=>l.casesOn none λw l=>l.casesOn (ao (v,w)) λq q=>none
theorem aH5(h:two vs=ao p):vs= [p.1,p.2]:=by
 cases vs with
 |nil=>exact aM h
 |cons v l=>cases l with
  |nil=>exact aM h
  |cons w l=>cases l with
   |nil=>refine cxSP h ?_;rfl
   |cons=>exact aM h
def eLZ(fs:EFs):EF:=λlo H Q=>fs lo H λvs H1=>Lf (two vs) λp=>Lf (lst H1 p.1) λxs=>Lf (lst H1 p.2) λys=>xs.length=ys.length/\xs.length<1000000/\Q (.ref H1.length) (H1++[.list (kR xs ys)])
theorem EV.listZip(u:EVs C (r+1) env [e,c] fs)(l:mE env [e,c])(y:Glo C "list" (.type "list"))(t:Glo C "zip" (.type "zip"))(z:env.kindOf "list" =ao .globalImplicit)(K:env.kindOf "zip" =ao .globalImplicit)(g:ee [.Call (.Name "zip" p2) [e,c] [] p5] env=(aL,iw (.Call (.Name "zip" p2) [e,c] [] p5) env)::ee [] env)(b1:∀ pos,(kr pos (ee [.Call (.Name "zip" p2) [e,c] [] p5] env)).any (·.1)=aL):EV C (r+1) env (.Call (.Name "list" p1) [.Call (.Name "zip" p2) [e,c] [] p5] [] p6) (eLZ fs):=by
 refine λA s ρ H lo Q k S F q=>(jl (jW y z (by decide+kernel) S F (lJ (by rw[b1];rfl) dD (qX g (mG (jl (jW t K (by decide+kernel) S F (lJ (by rw[l.2];rfl) dD (wmN (kQ u l k S F q) λa s1 p=>?_)))) g)))))
 obtain⟨ps,R⟩:=a
 obtain⟨f,d,I,rs,q⟩:=p
 subst f
 refine⟨d.keep,q.elim λp B q=>q.elim λxs D q=>q.elim λys v q=>?_⟩
 rw[aH5 B]at rs
 refine xAA q λel w q=>?_
 cases rs with
 |cons ra rs=>cases rs with
  |cons N rs=>
   cases rs
   refine bV (b9 d ra D) λad P A h n=>?_;subst A
   refine bV (b9 d N v) λbd O M j L=>?_;subst M
   exact call_zip_2 h j λh' J c2 E x m G i=>qq ⟨λb o e=>i b o (d.keep b o e),wmN (aFd d k.1 h j n L el w rfl J c2 E x m G i) λx s' p=>((p.from I).post q)⟩
theorem aJi{a:aq Expr}{b:aq ua}(al:EsP C r κ c f)(e:c.length.blt 30=be)(h:(d.endLine==pos.line)=be):fM env (.Call (.Name "SequenceMatcher" g) a b p2) x d pos c:=⟨by cases a<;>cases b<;>rfl,by rw[al.al];exact bp (io e),h⟩
def xMc(smc:SMC C)(M:aq (Mth C))(d:dEt C r)(κ:Kn)(e:Expr):bn (RE C r κ e):=onN e.ctorIdx 16 (λq=>Expr.Call.elim (motive_1:=λe=>bn (RE C r κ e)) e q λfn as ks p=>ks.casesOn (onN fn.ctorIdx 20 (λq=>Expr.Attribute.elim (motive_1:=λfn=>bn (RE C r κ (.Call fn as [] p))) fn q λo m ap=>
 onN o.ctorIdx 16 (λq=>Expr.Call.elim (motive_1:=λo=>bn (RE C r κ (.Call (.Attribute o m ap) as [] p))) o q λfn2 as2 ks2 p2=>onN fn2.ctorIdx 23 (λq=>Expr.Name.elim (motive_1:=λfn2=>bn (RE C r κ (.Call (.Attribute (.Call fn2 as2 ks2 p2) m ap) as [] p))) fn2 q λy np=>onS y "SequenceMatcher" (λhy=>
  bd (d κ (.Call (.Name y np) as2 ks2 p2)) λf h=>onB (ap.endLine==p.line) λhk=>bd (dEs d κ as) λg hs=>bd (fndM m as.length M) λt te=>onB (t.r0.ble r) λhr=>onB (as.length.blt 30) λhl=>
   ao ⟨fR t.g f g,λa k=>by subst hy;exact EV.meth smc (te▸m1.mp t.hm) (t.cv.lift hr) (h.ok k) (hs.ok k) (hs.fl _) (aJi hs hl hk),pfC⟩) none) none) none) none) λa a=>none) none
def xLz(gl:Glo C "list" (.type "list"))(gz:Glo C "zip" (.type "zip"))(d:dEt C r)(κ:Kn)(e:Expr):bn (RE C r κ e):=r.casesOn (motive:=λr=>dEt C r->bn (RE C r κ e)) (λi=>none) (λr d=>onN e.ctorIdx 16 (λq=>Expr.Call.elim (motive_1:=λe=>bn (RE C (r+1) κ e)) e q λfn as ks p=>ks.casesOn (onN fn.ctorIdx 23 (λq=>Expr.Name.elim (motive_1:=λfn=>bn (RE C (r+1) κ (.Call fn as [] p))) fn q λl p1=>onS l "list" (λhl=>
 as.casesOn none λa z=>z.casesOn (onN a.ctorIdx 16 (λq=>Expr.Call.elim (motive_1:=λa=>bn (RE C (r+1) κ (.Call (.Name l p1) [a] [] p))) a q λg bs ks p5=>ks.casesOn (onN g.ctorIdx 23 (λq=>Expr.Name.elim (motive_1:=λg=>bn (RE C (r+1) κ (.Call (.Name l p1) [.Call g bs [] p5] [] p))) g q λm p2=>onS m "zip" (λhm=>
  bs.casesOn none λb z=>z.casesOn none λc z=>z.casesOn (onB (glK κ "list") λg1=>onB (glK κ "zip") λg2=>bd (d κ b) λf h=>bd (d κ c) λf2 h2=>ao ⟨eLZ (esC f (esC f2 esN)),λi k=>by
   subst hl hm
   exact EV.listZip ((es2 h h2).ok k) ((es2 h h2).fl _) gl gz (k.gl g1).1 (k.gl g2).1 rfl λi=>rfl,pfC⟩) λi i=>none) none) none) λi i=>none) none) λi i=>none) none) none) λi i=>none) none) d
def ktTup(k:Expr->Kti C)(e:Expr):Kti C:=(onN e.ctorIdx 25 (λq=>ao ktT) none).getD (k e)
def XX.D1(T:aq (Fn C)):DX C:=⟨X.smc,T++fn0 (r0:=0) "sorted" CV.sorted X.g_sorted::fn0 (r0:=0) "sum" CV.sum X.g_sum::X.T1,X.M1,ktTup X.ktl,_,X.km,X.g_enumerate,X.sys,λd t κ e=>orE (xLz X.g_list X.g_zip d κ e) (orE (xSl d κ e) (orE (xExt d κ e) (orE (xBo d κ e) (xMc X.smc X.M1 d κ e)))),λd κ e=>tCha d κ e,λq q q=>none⟩
def rQ(X:XX C):SF:=(bD "hunks" (b8 esN))
def gIn:SF:=(aB (aX (oA (eN "old") (bJ (d8 C) [".0","k"] (iR (aI b7 (esC (eN "i1") (esC (eN "i2") esN)))) (aN "k") (tK be) (aV (aA aQ (eN "base") (eN "k")))))) (aB (aX (oA (eN "new") (bJ (d8 C) [".0","k"] (iR (aI b7 (esC (eN "j1") (esC (eN "j2") esN)))) (aN "k") (tK be) (aV (aA aQ (eN "side") (eN "k")))))) (sK .next)))
def neE:EF:=aA (bN not) (aA aQ (eN "code") (eK (.int 0))) (eK (.str "equal"))
def rP:SF:=(d6 (bA C) (iL (aI (mV (l4 X.gc 6 X.gv) (λi=>i)) (esC (fR (cA X) (aI X.c_SM (esC (eK .none) (esC (eN "base") (esC (eN "side") esN)))) (esC (eN "n") esN)) esN))) (aN "group") (aB (cL ["old","new"] (aY (esC (b8 esN) (esC (b8 esN) esN)))) (aB (d6 (bA C) (iL (eN "group")) (b3 5 (asC (aN "tag") (asC (aN "i1") (asC (aN "i2") (asC (aN "j1") (asC (aN "j2") asN)))))) (gIn (C:=C))) (aB (bD "changes" (bJ (bA C) [".0","code"] (iL (eN "group")) (aN "code") (aW (tE neE) (tK be)) (aV (eN "code")))) (aB (aX (cV (eN "hunks") (aY (esC (aA aQ (aA aQ (eN "group") (eK (.int 0))) (eK (.int 1))) (esC (aA aQ (aA aQ (eN "group") (n9 (eK (.int 1)))) (eK (.int 2))) (esC (eN "who") (esC (eN "new") (esC (aY (esC (eN "old") (esC (aI bQ (esC (eN "group") esN)) (esC (eN "changes") esN)))) esN)))))))) (sK .next))))))
def rO(X:XX C):SF:=(gD (eN "hunks"))
def jZ:SF:=(aB (rQ X) (aB (rP X) (aB (rO X) (sK .next))))
def gP:CF:=iX ["base","side","n","who"] [] (jZ X)
def qN(X:XX C):SF:=(cL ["rows","seen","k"] (aY (esC (b8 esN) (esC (eK (.int 0)) (esC (eK (.int 0)) esN)))))
def mSw:SF:=(cL ["texts","told","ends"] (aY (esC (b8 (esC (b8 esN) (esC (b8 esN) esN))) (esC (b8 (esC (b8 esN) (esC (b8 esN) esN))) (esC (b8 (esC (eN "low") (esC (eN "low") esN))) esN)))))
def mT:TF:=(aW (tE (aA oLt (eN "k") (aI bQ (esC (eN "hunks") esN)))) (aW (tE (aA oLe (aA aQ (aA aQ (eN "hunks") (eN "k")) (eK (.int 0))) (eN "high"))) (tK be)))
def mFr:SF:=(aB (aX (oA (aA aQ (eN "texts") (eN "who")) (dK (eN "base") (aA aQ (eN "ends") (eN "who")) (eN "high") (eK .none)))) (sK .next))
def qM(X:XX C):SF:=(fJ (tE (aA oLt (eN "k") (aI bQ (esC (eN "hunks") esN)))) (aB (cL ["low","high"] (aY (esC (aA aQ (aA aQ (eN "hunks") (eN "k")) (eK (.int 0))) (esC (aA aQ (aA aQ (eN "hunks") (eN "k")) (eK (.int 1))) esN)))) (aB mSw (aB (fJ mT (aB (cD (aA aQ (eN "hunks") (eN "k")) (b3 5 (asC (aN "left") (asC (aN "right") (asC (aN "who") (asC (aN "new") (asC (aN "rest") asN))))))) (aB (aX (oA (aA aQ (eN "texts") (eN "who")) (aA aP (dK (eN "base") (aA aQ (eN "ends") (eN "who")) (eN "left") (eK .none)) (eN "new")))) (aB (aX (cV (aA aQ (eN "told") (eN "who")) (eN "rest"))) (aB (cD (eN "right") (jG (eN "ends") (eN "who"))) (aB (bD "high" (aI mU (esC (eN "high") (esC (eN "right") esN)))) (aB (sY "k" s9 (eK (.int 1))) (sK .next)))))))) (aB (d6 (jE C) (iT (aY (esC (eK (.int 0)) (esC (eK (.int 1)) esN)))) (aN "who") mFr) (aB (aX (cV (eN "rows") (aY (esC (dK (eN "base") (eN "seen") (eN "low") (eK .none)) (esC (dK (eN "base") (eN "low") (eN "high") (eK .none)) (esC (eN "texts") (esC (eN "told") esN))))))) (aB (bD "seen" (eN "high")) (sK .next))))))))
def qL(X:XX C):SF:=(gD (aY (esC (eN "rows") (esC (dK (eN "base") (eN "seen") (eK .none) (eK .none)) esN))))
def iI:SF:=(aB (qN X) (aB (qM X) (aB (qL X) (sK .next))))
def iU:CF:=iX ["base","hunks"] [] (iI X)
def rN(X:XX C):SF:=(bD "marks" (bJ (d8 C) [".0","place"] (iR (aI b7 (esC (aA aP (aA d3 (eK (.int 2)) (eN "size")) (eK (.int 1))) esN))) (aN "place") (tK be) (aV (eK (.bool aL)))))
def mRange:EF:=(aI b7 (esC (aI mU (esC (eK (.int 0)) (esC (aA d3 (eK (.int 2)) (aA cP (eN "i1") (eN "n"))) esN))) (esC (aA aP (aI qW (esC (aA d3 (eK (.int 2)) (eN "size")) (esC (aA d3 (eK (.int 2)) (aA aP (eN "i2") (eN "n"))) esN))) (eK (.int 1))) esN)))
def mIn:SF:=(aB (cD (eK (.bool be)) (jG (eN "marks") (eN "place"))) (sK .next))
def mBody:SF:=(aB (sIf (tE (aA (bN not) (eN "tag") (eK (.str "equal")))) (aB (d6 (d8 C) (iR mRange) (aN "place") mIn) (sK .next)) (sK .next)) (sK .next))
def rJ(X:XX C):SF:=(d6 (bA C) (iL (eN "codes")) (b3 5 (asC (aN "tag") (asC (aN "i1") (asC (aN "i2") (asC (aN "j1") (asC (aN "j2") asN)))))) (mBody (C:=C)))
def rH(X:XX C):SF:=(gD (eN "marks"))
def jY:SF:=(aB (rN X) (aB (rJ X) (aB (rH X) (sK .next))))
def j9:CF:=iX ["codes","n","size"] [] (jY X)
def uM(X:XX C):SF:=(bD "begins" (bJ (d8 C) [".0","k"] (iR (aI b7 (esC (aI bQ (esC (eN "marks") esN)) esN))) (aN "k") (aW (aW (tE (aA aQ (eN "marks") (eN "k"))) (aW (tOr (tE (aA (bN id) (eN "k") (eK (.int 0)))) (tOr (q9 (tE (aA aQ (eN "marks") (aA cP (eN "k") (eK (.int 1)))))) (tK aL))) (tK be))) (tK be)) (aV (eN "k"))))
def uL(X:XX C):SF:=(bD "ends" (bJ (d8 C) [".0","k"] (iR (aI b7 (esC (aI bQ (esC (eN "marks") esN)) esN))) (aN "k") (aW (aW (tE (aA aQ (eN "marks") (eN "k"))) (aW (tOr (tE (aA (bN id) (aA aP (eN "k") (eK (.int 1))) (aI bQ (esC (eN "marks") esN)))) (tOr (q9 (tE (aA aQ (eN "marks") (aA aP (eN "k") (eK (.int 1)))))) (tK aL))) (tK be))) (tK be)) (aV (eN "k"))))
def uK(X:XX C):SF:=(gD (eLZ (esC (eN "begins") (esC (eN "ends") esN))))
def lG:SF:=(aB (uM X) (aB (uL X) (aB (uK X) (sK .next))))
def eY:CF:=iX ["marks"] [] (lG X)
theorem nN:CV C 11 (.ref 268) (eY X):=CV.def_ X.d__law_runs ⋯ X.b__law_runs (λq q=>.nil) (cQ ⋯) (λL=>(cK (X.D1 []) rfl ⋯))
def rV(X:XX C):SF:=(bD "cells" (bJ (d8 C) [".0","place"] (iR (aI b7 (esC (aA aP (aA d3 (eK (.int 2)) (aI bQ (esC (eN "base") esN))) (eK (.int 1))) esN))) (aN "place") (tK be) (aV (b8 esN))))
def cIn1:SF:=(aB (cD (b8 (esC (aA aQ (eN "base") (eN "k")) esN)) (jG (eN "cells") (aA aP (aA d3 (eK (.int 2)) (eN "k")) (eK (.int 1))))) (sK .next))
def cBody:SF:=(aB (sIf (tE (aA (bN id) (eN "tag") (eK (.str "equal")))) (aB (d6 (d8 C) (iR (aI b7 (esC (eN "i1") (esC (eN "i2") esN)))) (aN "k") cIn1) (sK .next)) (aB (cD (dK (eN "side") (eN "j1") (eN "j2") (eK .none)) (jG (eN "cells") (aA d3 (eK (.int 2)) (eN "i1")))) (sK .next))) (sK .next))
def rU(X:XX C):SF:=(d6 (bA C) (iL (eN "codes")) (b3 5 (asC (aN "tag") (asC (aN "i1") (asC (aN "i2") (asC (aN "j1") (asC (aN "j2") asN)))))) (cBody (C:=C)))
def rT(X:XX C):SF:=(gD (eN "cells"))
def j3:SF:=(aB (rV X) (aB (rU X) (aB (rT X) (sK .next))))
def kA:CF:=iX ["codes","base","side"] [] (j3 X)
def uJ(X:XX C):SF:=(bD "told" (b8 esN))
def chTe:TF:=(aW (aW (tE neE) (aW (tCh oLe oLe (eN "left") (aA d3 (eK (.int 2)) (aA aQ (eN "code") (eK (.int 1)))) (eN "right")) (tK be))) (tK be))
def tIn:SF:=(aB (bD "changes" (bJ (bA C) [".0","code"] (iL (eN "codes")) (aN "code") chTe (aV (eN "code")))) (aB (bD "bare" (bJ (bA C) [".0","code"] (iL (aA aP (dK (eN "codes") (eK .none) (eK (.int 1)) (eK .none)) (dK (eN "codes") (n9 (eK (.int 1))) (eK .none) (eK .none)))) (aN "code") (aW (tE (aA (oIn id) (eN "code") (eN "changes"))) (tK be)) (aV (eN "code")))) (aB (aX (cV (eN "told") (aY (esC (dK (eN "base") (aA fY (eN "left") (eK (.int 2))) (aA fY (eN "right") (eK (.int 2))) (eK .none)) (esC (aA cP (aA aP (aA d3 (eK (.int 2)) (aI bQ (esC (eN "changes") esN))) (eK (.int 1))) (aI bQ (esC (eN "bare") esN))) (esC (eN "changes") esN)))))) (sK .next))))
def tBody:SF:=(aB (sIf (aW (tE (aA oLe (eN "begin") (eN "left"))) (aW (tE (aA oLe (eN "right") (eN "end"))) (tK be))) (tIn (C:=C)) (sK .next)) (sK .next))
def uI:SF:=(d6 (bA C) (iL (aI (eY X) (esC (eN "marks") esN))) (b3 2 (asC (aN "left") (asC (aN "right") asN))) (tBody (C:=C)))
def uH(X:XX C):SF:=(gD (eN "told"))
def lF:SF:=(aB (uJ X) (aB (uI X) (aB (uH X) (sK .next))))
def iS:CF:=iX ["codes","marks","base","begin","end"] [] (lF X)
def nF:SF:=(bD "marks" (bJ (jE C) [".0","who"] (iT (aY (esC (eK (.int 0)) (esC (eK (.int 1)) esN)))) (aN "who") (tK be) (aV (aI (j9 X) (esC (aA aQ (eN "codes") (eN "who")) (esC (aA aQ (eN "reach") (eN "who")) (esC (aI bQ (esC (eN "base") esN)) esN)))))))
def nD:SF:=(bD "cells" (bJ (jE C) [".0","who"] (iT (aY (esC (eK (.int 0)) (esC (eK (.int 1)) esN)))) (aN "who") (tK be) (aV (aI (kA X) (esC (aA aQ (eN "codes") (eN "who")) (esC (eN "base") (esC (aA aQ (eN "sides") (eN "who")) esN)))))))
def wL(X:XX C):SF:=(cL ["rows","seen"] (aY (esC (b8 esN) (esC (eK (.int 0)) esN))))
def txE:EF:=(bJ (jE C) [".0","who"] (iT (aY (esC (eK (.int 0)) (esC (eK (.int 1)) esN)))) (aN "who") (tK be) (aV (bJ (bA C) [".0","cell","x"] (iL (dK (aA aQ (eN "cells") (eN "who")) (eN "begin") (aA aP (eN "end") (eK (.int 1))) (eK .none))) (aN "cell") (tK be) (mB (bA C) (iL (eN "cell")) (aN "x") (tK be) (aV (eN "x"))))))
def orC:EF:=(bJ (d8 C) [".0","place"] (iR (aI b7 (esC (aA aP (aA d3 (eK (.int 2)) (aI bQ (esC (eN "base") esN))) (eK (.int 1))) esN))) (aN "place") (tK be) (aV (eOr (aA aQ (aA aQ (eN "marks") (eK (.int 0))) (eN "place")) (aA aQ (aA aQ (eN "marks") (eK (.int 1))) (eN "place")))))
def tdE:EF:=(bJ (jE C) [".0","who"] (iT (aY (esC (eK (.int 0)) (esC (eK (.int 1)) esN)))) (aN "who") (tK be) (aV (aI (iS X) (esC (aA aQ (eN "codes") (eN "who")) (esC (aA aQ (eN "marks") (eN "who")) (esC (eN "base") (esC (eN "begin") (esC (eN "end") esN))))))))
def dBody:SF:=(aB (bD "texts" (txE (C:=C))) (aB (bD "told" (tdE X)) (aB (aX (cV (eN "rows") (aY (esC (dK (eN "base") (eN "seen") (aA fY (eN "begin") (eK (.int 2))) (eK .none)) (esC (dK (eN "base") (aA fY (eN "begin") (eK (.int 2))) (aA fY (eN "end") (eK (.int 2))) (eK .none)) (esC (eN "texts") (esC (eN "told") esN))))))) (aB (bD "seen" (aA fY (eN "end") (eK (.int 2)))) (sK .next)))))
def wK:SF:=(d6 (bA C) (iL (aI (eY X) (esC (orC (C:=C)) esN))) (b3 2 (asC (aN "begin") (asC (aN "end") asN))) (dBody X))
def wJ:SF:=(qL X)
def mQ:SF:=(aB (nF X) (aB (nD X) (aB (wL X) (aB (wK X) (aB (wJ X) (sK .next))))))
def mS:CF:=iX ["base","sides","codes","reach"] [] (mQ X)
def numE:EF:=aA aP (aA fY (aA d3 (eN "k") (aA aP (eN "k") (eK (.int 1)))) (eK (.int 2))) (aI y7 (esC (dK (eN "script") (eN "k") (eK .none) (eK (.int 24))) esN))
def aBe(X:XX C):SF:=(bD "numbers" (bJ (d8 C) [".0","k"] (iR (aI b7 (esC (eK (.int 24)) esN))) (aN "k") (tK be) (aV numE)))
def aBd(X:XX C):SF:=(bD "reach" (b8 (esC (aA mL (aA aP (eK (.int 1)) (aI y7 (esC (eN "script") esN))) (eK (.int 3))) (esC (aA mL (aA fY (aI y7 (esC (eN "script") esN)) (eK (.int 3))) (eK (.int 3))) esN))))
def aBc(X:XX C):SF:=(bD "base" (bJ (bA C) [".0","x"] (iL (eN "numbers")) (aN "x") (aW (tE (aA (oIn not) (aA mL (eN "x") (eK (.int 8))) (aY (esC (eK (.int 6)) (esC (eK (.int 7)) esN))))) (tK be)) (aV (aA mL (aA fY (eN "x") (eK (.int 8))) (eK (.int 3))))))
def aBb(X:XX C):SF:=(bD "ours" (bJ (bA C) [".0","x"] (iL (eN "numbers")) (aN "x") (aW (tE (aA (oIn not) (aA mL (eN "x") (eK (.int 8))) (aY (esC (eK (.int 4)) (esC (eK (.int 7)) esN))))) (tK be)) (aV (aA mL (aA fY (eN "x") (eK (.int 8))) (eK (.int 3))))))
def aBa(X:XX C):SF:=(bD "theirs" (bJ (bA C) [".0","x"] (iL (eN "numbers")) (aN "x") (aW (tE (aA (oIn not) (aA mL (eN "x") (eK (.int 8))) (aY (esC (eK (.int 5)) (esC (eK (.int 6)) esN))))) (tK be)) (aV (aA mL (aA fY (eN "x") (eK (.int 8))) (eK (.int 3))))))
def aA9:SF:=(bD "codes" (bJ (jE C) [".0","side"] (iT (aY (esC (eN "ours") (esC (eN "theirs") esN)))) (aN "side") (tK be) (aV (fR (bU X) (aI X.c_SM (esC (eK .none) (esC (eN "base") (esC (eN "side") esN)))) esN))))
def aA8:SF:=(cL ["mine","other"] (aY (esC (aI (gP X) (esC (eN "base") (esC (eN "ours") (esC (aA aQ (eN "reach") (eK (.int 0))) (esC (eK (.int 0)) esN))))) (esC (aI (gP X) (esC (eN "base") (esC (eN "theirs") (esC (aA aQ (eN "reach") (eK (.int 1))) (esC (eK (.int 1)) esN))))) esN))))
def aA7(X:XX C):SF:=(sIf (tOr (tE (aA (bN not) (eN "mine") (aI kK (esC (eN "mine") esN)))) (tOr (tE (aA (bN not) (eN "other") (aI kK (esC (eN "other") esN)))) (tK aL))) (aB (gD (eK (.bool aL))) (sK .next)) (sK .next))
def aA6:SF:=(cD (aI (iU X) (esC (eN "base") (esC (aI kK (esC (aA aP (eN "mine") (eN "other")) esN)) esN))) (b3 2 (asC (aN "rows") (asC (aN "rest") asN))))
def aA5(X:XX C):SF:=(d6 (nA C) (iL (b8 (esC (eN "ours") (esC (eN "theirs") esN)))) (b3 2 (asC (aN "who") (asC (aN "side") asN))) (aB (sIf (tE (aA (bN not) (aA aP (bJ (bA C) [".0","kept","old","texts","told","x"] (iL (eN "rows")) (aTup 4 (asC (aN "kept") (asC (aN "old") (asC (aN "texts") (asC (aN "told") asN))))) (tK be) (mB (bA C) (iL (aA aP (eN "kept") (aA aQ (eN "texts") (eN "who")))) (aN "x") (tK be) (aV (eN "x")))) (eN "rest")) (eN "side"))) (aB (gD (eK (.bool aL))) (sK .next)) (sK .next)) (sK .next)))
def wM:SF:=(gD (aA (bN id) (aY (esC (eN "rows") (esC (eN "rest") esN))) (aI (mS X) (esC (eN "base") (esC (b8 (esC (eN "ours") (esC (eN "theirs") esN))) (esC (eN "codes") (esC (eN "reach") esN)))))))
def aBf:SF:=(aB (aBe X) (aB (aBd X) (aB (aBc X) (aB (aBb X) (aB (aBa X) (aB (aA9 X) (aB (aA8 X) (aB (aA7 X) (aB (aA6 X) (aB (aA5 X) (aB (wM X) (sK .next))))))))))))
def c_law:CF:=iX ["script"] [] (aBf X)
theorem cv_law:CV C 14 (.ref 288) (c_law X):=CV.def_ X.d_law ⋯ X.b_law (λq q=>.nil) (cQ ⋯) (λL=>(cK (X.D1 [fn0 "_law_due" ((by exact λX=>CV.def_ X.d__law_due ⋯ X.b__law_due (λq q=>.nil) (cQ ⋯) (λL=>(cK (X.D1 [fn0 "_law_told" ((by exact λX=>CV.def_ X.d__law_told ⋯ X.b__law_told (λq q=>.nil) (cQ ⋯) (λL=>(cK (X.D1 [fn0 "_law_runs" (nN X) X.g__law_runs]) rfl ⋯)):∀(X:XX C),CV C 12 (.ref 278) (iS X)) X) X.g__law_told,fn0 "_law_cells" ((by exact λX=>CV.def_ X.d__law_cells ⋯ X.b__law_cells (λq q=>.nil) (cQ ⋯) (λL=>(cK (X.D1 []) rfl ⋯)):∀(X:XX C),CV C 11 (.ref 273) (kA X)) X) X.g__law_cells,fn0 "_law_runs" (nN X) X.g__law_runs,fn0 "_law_marks" ((by exact λX=>CV.def_ X.d__law_marks ⋯ X.b__law_marks (λq q=>.nil) (cQ ⋯) (λL=>(cK (X.D1 []) rfl ⋯)):∀(X:XX C),CV C 11 (.ref 263) (j9 X)) X) X.g__law_marks]) rfl ⋯)):∀(X:XX C),CV C 13 (.ref 283) (mS X)) X) X.g__law_due,fn0 "_law_merged" ((by exact λX=>CV.def_ X.d__law_merged ⋯ X.b__law_merged (λq q=>.nil) (cQ ⋯) (λL=>(cK (X.D1 []) rfl ⋯)):∀(X:XX C),CV C 11 (.ref 258) (iU X)) X) X.g__law_merged,fn0 "_law_hunks" ((by exact λX=>CV.def_ X.d__law_hunks ⋯ X.b__law_hunks (λq q=>.nil) (cQ ⋯) (λL=>(cK (X.D1 []) rfl ⋯)):∀(X:XX C),CV C 11 (.ref 251) (gP X)) X) X.g__law_hunks]) rfl ⋯))
theorem Yj0:m<200->(0:Nat)+((2:Nat)*Int.toNat (((m:Nat):Int)-(0:Int))+(1:Nat)+(0:Nat))<=(1000:Nat):=zzM 0x1137e8f40f41f6803da28101102f80000f40006a3d07da00007 [m] ⋯
theorem Yj1:m<200->(2:Nat)*Int.toNat (((m:Nat):Int)-(0:Int))+(1:Nat)+(0:Nat)<=(1000:Nat):=zzM 0x44dfa3d03d07da00f68a040440be000006a3d07da00007 [m] ⋯
def av(l:aq Int)(i:Int):Int:=l.getD i.toNat 0
def Mt(a b:aq Int)(i j k:Int):Prop:=∀ t,0<=t->t<k->av a (i+t)=av b (j+t)
structure Wd where
 al:Int
 ah:Int
 bl:Int
 bh:Int
structure In(a b:aq Int)(w:Wd)(i j k:Int):Prop where
 i0:w.al<=i
 i1:i+k<=w.ah
 j0:w.bl<=j
 j1:j+k<=w.bh
 k0:0<=k
 m:Mt a b i j k
def Ge(i j k i' j' k':Int):Prop:=k'<k\/(k'=k/\(i<i'\/(i=i'/\j<=j')))
structure Best(a b:aq Int)(w:Wd)(i j k:Int):Prop where
 n:In a b w i j k
 z:k=0->i=w.al/\j=w.bl
 g:∀ i' j' k',In a b w i' j' k'->0<k'->Ge i j k i' j' k'
theorem Ge.pos{b a:Int}(h:Ge i j k c b a)(h':0<a):0<k:=by
 rcases h with h |⟨e,_⟩
 ·exact Int.lt_trans h' h
 ·exact e▸h'
theorem Best.uniq(h:Best a b w i j k)(h':Best a b w f c d):i=f/\j=c/\k=d:=by
 refine Or.elim (Int.lt_or_eq_of_le h.n.k0) (λp=>?_) λp=>?_
 ·have q:=h'.g _ _ _ h.n p
  exact(by
   intro i j k f c d h h'
   rcases h with h |⟨e,h⟩
   ·rcases h' with h' |⟨r,_⟩
    ·exact ca h (Int.lt_asymm h')
    ·exact ca h (r▸jm _)
   ·rcases h' with h' |⟨_,h'⟩
    ·exact ca h' (e▸jm _)
    ·rcases h with h |⟨l,h⟩
     ·rcases h' with h' |⟨o,_⟩
      ·exact ca h (Int.lt_asymm h')
      ·exact ca h (o▸jm _)
     ·rcases h' with h' |⟨_,h'⟩
      ·exact ca h' (l▸jm _)
      ·exact⟨l,Int.le_antisymm h h',e.symm⟩:∀{i j k f c d:Int}(h:Ge i j k f c d)(h':Ge f c d i j k),i=f/\j=c/\k=d) (h.g _ _ _ h'.n (q.pos p)) q
 ·refine Or.elim (Int.lt_or_eq_of_le h'.n.k0) (λp'=>(ca ((h.g _ _ _ h'.n p').pos p') (p▸jm _))) λp'=>?_
  ·have m:=h'.z p'.symm
   exact⟨(h.z p.symm).1.trans m.1.symm,(h.z p.symm).2.trans m.2.symm,p.symm.trans p'⟩
structure Suf(a b:aq Int)(w:Wd)(i j k:Int):Prop where
 k0:0<=k
 i0:w.al<=i-k+1
 j0:w.bl<=j-k+1
 m:Mt a b (i-k+1) (j-k+1) k
 x:w.al<=i-k->w.bl<=j-k->av a (i-k)≠av b (j-k)
theorem Suf.zero(e:w.al<=i+1)(f:w.bl<=j+1)(x:w.al<=i->w.bl<=j->av a i≠av b j):Suf a b w i j 0:=⟨Int.le_refl _,A128 e,A128 f,λt c d=>ca d (lr.mpr c),by simpa using x⟩
theorem Suf.succ(h:Suf a b w (i-1) (j-1) k)(e:av a i=av b j):Suf a b w i j (k+1):=by
 have c:i-(k+1)=i-1-k:=A129
 have d:j-(k+1)=j-1-k:=A129
 refine⟨px h.k0 (by decide),by exact rwL c h.i0,by exact rwL d h.j0,λt f g=>?_,by exact rwL c (rwL d h.x)⟩
 rw[c,d]
 by_cases q:t=k
 ·exact rwL (A130 q:i-1-k+1+t=i) (rwL (A131 (A130 q:i-1-k+1+t=i)) e)
 ·exact h.m t f (A132 g q)
theorem Suf.max(h:Suf a b w i j k)(n:In a b w f d c)(e:f+c=i+1)(g:d+c=j+1):c<=k:=by
 refine lr.mp λq=>?_
 have m:=n.m (c-1-k) (zzI1 0x5a01f6904103d0a907da00087 [k,c] ⋯ q) (zzI1 0x5a41f6807da410400a803d087 [k,c] ⋯ h.k0)
 rw[(A135 e),(A135 g)]at m
 exact h.x (by exact A136 q (A135 e) n.i0) (by exact A136 q (A135 g) n.j0) m
structure BU(a b:aq Int)(w:Wd)(x y i j k:Int):Prop where
 n:In a b w i j k
 z:k=0->i=w.al/\j=w.bl
 e:0<k->i+k<=x\/(i+k=x+1/\j+k<=y)
 g:∀ i' j' k',In a b w i' j' k'->0<k'->(i'+k'<=x\/(i'+k'=x+1/\j'+k'<=y))->Ge i j k i' j' k'
theorem BU.start(c:w.al<=w.ah)(d:w.bl<=w.bh):BU a b w w.al w.bl w.al w.bl 0:=by
 refine⟨⟨Int.le_refl _,A137 c,Int.le_refl _,A137 d,Int.le_refl _,λt c d=>ca d (lr.mpr c)⟩,λg=>⟨rfl,rfl⟩,λq=>ca q (jm _),λi' e f n q r=>?_⟩
 have:=n.i0;have:=n.j0;omega
theorem BU.skip(h:BU a b w x y i j k)(s:y<=l)(t:∀ c,y<=c->c<l->w.bl<=c->c<w.bh->av a x≠av b c):BU a b w x l i j k:=by
 refine⟨h.n,h.z,λq=>(h.e q).imp_right λr=>⟨r.1,dt r.2 s⟩,λi' o d n q r=>?_⟩
 by_cases p:i'+d<=x\/(i'+d=x+1/\o+d<=y)
 ·exact h.g i' o d n q p
 ·have f:=A140 r p
  exact ca (rwR f (n.m (d-1) (zzI1 0x141f68040f42a01f40f40087 [d] ⋯ q) (zzI0 0x6807d07da01002 [d] ⋯))) (t _ (zzI2 0x8890a07da41ac0b02a81f690680031e8b29ac0081f6a029a000c5aa9a00086107 [i',d,x,o,y] ⋯ p f) (zzI2 0x4426c07d07da41ac0002a81f690680031eca6b00207da80a6800316aa68002187 [i',d,x,o,l] ⋯ r f) (by exact zzI2 0x1507da01a80a42aa9087a01f40f40087 [d,w.bl,o] ⋯ q n.j0) (by exact zzI1 0x16a07d07da41a00002aa9a00087 [o,d,w.bh] ⋯ n.j1))
theorem BU.row(h:BU a b w x w.bh i j k):BU a b w (x+1) w.bl i j k:=by
 refine⟨h.n,h.z,λq=>.inl ?_,λi' c d n q r=>h.g i' c d n q ?_⟩
 ·refine Or.elim (h.e q) (λr=>?_) λr=>?_<;>omega
 ·have:=n.j0;have:=n.j1;omega
theorem BU.at{e:Int}(h:BU a b w x y i j k)(n:In a b w d e c)(r:0<c)(t:d+c<=x\/(d+c=x+1/\e+c<=y+1))(u: ¬(d+c<=x\/(d+c=x+1/\e+c<=y))):d+c=x+1/\e+c=y+1:=by
 rcases t with t |⟨t1,t2⟩
 ·exact ca (.inl t) u
 ·exact⟨t1,Int.le_antisymm t2 (lr.mp λq=>u (.inr ⟨t1,Int.le_of_lt_add_one q⟩))⟩
theorem BU.step(h:BU a b w x y i j k)(s:Suf a b w x y c)(o:x<w.ah)(l:y<w.bh)(p:0<c):BU a b w x (y+1) (if k<c then x-c+1 else i) (if k<c then y-c+1 else j) (if k<c then c else k):=by
 by_cases q:k<c
 ·simp only[cj q]
  refine⟨⟨s.i0,A145 o,s.j0,A145 l,s.k0,s.m⟩,λz=>(A146 p z).elim,λA=>.inr ⟨(zzI0 0x141f6802907da68040003 [x,c] ⋯),(zzI0 0x41f6802907da68040002 [y,c] ⋯)⟩,λi' f d n r t=>?_⟩
  by_cases u:i'+d<=x\/(i'+d=x+1/\f+d<=y)
  ·rcases h.g i' f d n r u with v |⟨v,_⟩
   ·exact .inl (Int.lt_trans v q)
   ·exact .inl (v▸q)
  ·have e:=BU.at h n r t u
   refine Or.elim (Int.lt_or_eq_of_le (s.max n e.1 e.2)) (λv=>(.inl v)) λv=>?_
   ·exact .inr ⟨v,.inr ⟨zzI2 0x50522a01f6da81003b690c707db00a6b00307da80a68003147 [i',d,x,f,y,c] ⋯ e v,zzI2 0x128ac1f6db01002b690c707db00a6b00307da80a68003147 [i',d,x,f,y,c] ⋯ e v⟩⟩
 ·simp only[cc q]
  refine⟨h.n,h.z,λz=>(h.e z).imp_right λr=>⟨r.1,zzI1 0x501f6c029ac00aca6b00207da80a68003147 [i,k,x,j,y] ⋯ r⟩,λi' f d n r t=>?_⟩
  by_cases u:i'+d<=x\/(i'+d=x+1/\f+d<=y)
  ·exact h.g i' f d n r u
  ·have e:=BU.at h n r t u
   have v:=dt (s.max n e.1 e.2) (lr.mp q)
   refine Or.elim (Int.lt_or_eq_of_le v) (λv=>(.inl v)) λv=>?_
   ·refine .inr ⟨v,Or.elim (h.e (v▸r)) (λz=>(.inl (zzI3 0x522a01f6e002aadb80087b690c707db00a6b00307da80a68003147 [i',d,x,f,y,k,i] ⋯ e v z))) λz=>?_⟩
    ·exact .inr ⟨zzI3 0x4905122a2e0ecb6f00207da80b6e003147b690c707db00a6b00307da80a68003147 [i',d,x,f,y,k,i,j] ⋯ e v z,zzI3 0x1428aef0acb6f00207da80b6e003147b690c707db00a6b00307da80a68003147 [i',d,x,f,y,k,i,j] ⋯ e v z⟩
theorem BU.done(h:BU a b w w.ah w.bl i j k):Best a b w i j k:=⟨h.n,h.z,λi' c d n q=>h.g i' c d n q (.inl n.i1)⟩
def Row(a b:aq Int)(w:Wd)(x y:Int)(g:Int->bn Int):Prop:=∀ c,if w.bl<=c/\c<y/\w.al<=x/\av a x=av b c then ∃ k,g c=ao k/\Suf a b w x c k else g c=none
theorem Row.skip(h:Row a b w x y g)(e:y<=d)(f:∀ c,y<=c->c<d->w.bl<=c->av a x≠av b c):Row a b w x d g:=λc=>by
 have:=h c
 by_cases q:w.bl<=c/\c<d/\w.al<=x/\av a x=av b c
 ·rw[cj q]
  by_cases r:c<y
  ·rwa [cj ⟨q.1,r,q.2.2⟩]at this
  ·exact ca q.2.2.2 (f c (lr.mp r) q.2.1 q.1)
 ·rw[cc q]
  rwa [cc λr=>q ⟨r.1,zzI2 0x426907dac00afb83b6c085a01f6b00216ba82147a68087 [y,d,w.bl,c,w.al,x,av a x,av b c] ⋯ e r,r.2.2⟩]at this
theorem Row.step(h:Row a b w x y g)(f:w.bl<=y)(d:w.al<=x)(e:av a x=av b y)(s:Suf a b w x y k):Row a b w x (y+1) (λc=>if c=y then ao k else g c):=λc=>by
 have:=h c
 by_cases q:c=y
 ·exact rwL q (rwL (cj ⟨f,(zzI0 0x41f68001f68002 [y] ⋯),d,e⟩) ⟨k,cj rfl,s⟩)
 ·dsimp only
  refine rwL (cc q) ?_
  by_cases r:w.bl<=c/\c<y/\w.al<=x/\av a x=av b c
  ·rw[cj r]at this
   rw[cj ⟨r.1,zzI1 0x4207da8007da400aeb43b2b085a81f69002169a02147 [w.bl,c,y,w.al,x,av a x,av b c] ⋯ r,r.2.2⟩];exact this
  ·rw[cc r]at this
   rw[cc λz=>r ⟨z.1,zzI2 0x10209a41f68002bad0ecac2141f69001f68002168a82147a29a03107 [c,y,w.bl,w.al,x,av a x,av b c] ⋯ q z,z.2.2⟩];exact this
theorem Row.next(h:Row a b w (x-1) w.bh g)(f:w.al<=x)(i:w.bl<=y)(c:y<w.bh)(e:av a x=av b y):Suf a b w x y ((g (y-1)).getD 0+1):=by
 have:=h (y-1)
 refine Suf.succ ?_ e
 by_cases q:w.bl<=y-1/\y-1<w.bh/\w.al<=x-1/\av a (x-1)=av b (y-1)
 ·rw[cj q]at this
  exact xEA this λk h1 d=>rwL h1 d
 ·rw[cc q]at this
  exact rwL this (.zero (A159 f) (A159 i) λh1 d j=>q ⟨d,zzI1 0x5a41f41f680400a907da00087 [y,w.bh] ⋯ c,h1,j⟩)
theorem Row.zero(h:x<w.al\/y<=w.bl):Row a b w x y (λq=>none):=λc=>by
 rw[cc (zzI1 0x54468bad0e8a4216a07db00085b2b08512ba82a41f68002187 [x,w.al,y,w.bl,c,av a x,av b c] ⋯ h)]
class inductive Idx(b:aq Int)(v:Int):Int->aq Int->Prop
 |nil {lo:Int} (h:∀ c:Int,lo<=c->c<b.length->av b c≠v):Idx b v lo []
 |cons {lo j:Int}{js:aq Int} (h:lo<=j) (hl:j<b.length) (e:av b j=v) (n:∀ c:Int,lo<=c->c<j->av b c≠v) (r:Idx b v (j+1) js):Idx b v lo (j::js)
theorem Idx.no(h:Idx b v y (j::js)):∀ c,y<=c->c<j->av b c≠v:=by
 cases h with
 |cons _ _ _ n _=>exact n
structure WOk(a b:aq Int)(w:Wd):Prop where
 a0:0<=w.al
 a1:w.al<=w.ah
 a2:w.ah<=a.length
 b0:0<=w.bl
 b1:w.bl<=w.bh
 b2:w.bh<=b.length
structure T3 where
 i:Int
 j:Int
 k:Int
def jD(w:Wd)(i j:Int)(q:aq Wd):aq Wd:=if w.al<i/\w.bl<j then⟨w.al,i,w.bl,j⟩::q else q
def k8(w:Wd)(i j k:Int)(q:aq Wd):aq Wd:=if i+k<w.ah/\j+k<w.bh then⟨i+k,w.ah,j+k,w.bh⟩::q else q
class inductive Run(a b:aq Int):aq Wd->aq T3->aq T3->Prop
 |nil {m:aq T3}:Run a b [] m m
 |zero {w:Wd}{q:aq Wd}{m r:aq T3}{i j:Int} (B:Best a b w i j 0) (h:Run a b q m r):Run a b (w::q) m r
 |pos {w:Wd}{q:aq Wd}{m r:aq T3}{i j k:Int} (B:Best a b w i j k) (p:0<k) (h:Run a b (k8 w i j k (jD w i j q)) (m++[⟨i,j,k⟩]) r):Run a b (w::q) m r
theorem Run.uniq(h:Run a b q m r)(h':Run a b q m e):r=e:=by
 induction h with
 |nil=>cases h';rfl
 |zero B h d=>
  cases h' with
  |zero c h'=>exact d h'
  |pos c p h'=>exact ca ((B.uniq c).2.2▸p) (jm _)
 |pos B p h d=>
  cases h' with
  |zero c h'=>exact ca ((c.uniq B).2.2▸p) (jm _)
  |pos c i h'=>
   refine xAA (B.uniq c) λe1 g f=>?_
   subst e1 g f
   exact d h'
def wsz(w:Wd):Nat:=2*(w.ah-w.al).toNat+1
def mu:aq Wd->Nat
 | []=>0
 |w::q=>wsz w+mu q
theorem yG:∀ q:aq Wd,q.length<=mu q
 | []=>c5 _
 |w::q=>by
  rw[(by exact λw q=>rfl:∀(w:Wd)(q:aq Wd),mu (w::q)=wsz w+mu q),e6,vc]
  exact Nat.add_le_add (mx _ _) (yG q)
theorem zP(h:WOk a b w)(B:Best a b w i j k)(r:∀ v∈q,WOk a b v):∀ v∈k8 w i j k (jD w i j q),WOk a b v:=by
 have g:=B.n.i1;have m:=B.n.j0;have o:=B.n.j1;have p:=B.n.k0
 have d:=kx p i;have f:=kx p j
 rw[nh]at d f
 have l:∀ v∈jD w i j q,WOk a b v:=λv c=>by
  unfold jD at c
  split at c
  ·refine Or.elim (du.mp c) (λe=>(e▸⟨h.a0,B.n.i0,dt d (dt g h.a2),h.b0,m,dt f (dt o h.b2)⟩)) λe=>?_
   ·exact r v e
  ·exact r v c
 intro v c
 unfold k8 at c
 split at c
 ·refine Or.elim (du.mp c) (λe=>(e▸⟨dt h.a0 (dt B.n.i0 d),g,h.a2,dt h.b0 (dt m f),o,h.b2⟩)) λe=>?_
  ·exact l v e
 ·exact l v c
theorem mu_sub(B:Best a b w i j k)(p:0<k)(q:aq Wd):mu (k8 w i j k (jD w i j q))+1<=mu (w::q):=by
 have c:=B.n.i1
 have d:mu (jD w i j q)<=2*(i-w.al).toNat+1+mu q:=by
  delta jD
  split
  ·exact c5 _
  ·exact mx _ _
 have e:mu (k8 w i j k (jD w i j q))<=2*(w.ah-(i+k)).toNat+1+mu (jD w i j q):=by
  delta k8
  split
  ·exact c5 _
  ·exact mx _ _
 exact A183 p B.n.i0 c d e rfl
def nad(c:T3):aq T3->aq T3
 | []=>if c.k=0 then [] else [c]
 |x::xs=>if c.i+c.k=x.i/\c.j+c.k=x.j then nad ⟨c.i,c.j,c.k+x.k⟩ xs else(if c.k=0 then [] else [c])++nad x xs
theorem aAe(c:T3):nad c []=if c.k=0 then [] else [c]:=rfl
theorem aAf(c x:T3)(xs:aq T3):nad c (x::xs)=if c.i+c.k=x.i/\c.j+c.k=x.j then nad ⟨c.i,c.j,c.k+x.k⟩ xs else(if c.k=0 then [] else [c])++nad x xs:=rfl
noncomputable abbrev Nv:=aq (Str×bn V)
def look(l:Nv):Lo:=λx=>match l.lookup x with |some o=>o |none=>none
def put(l:Nv)(x:Str)(v:V):Nv:=match l with
 | []=>[(x,ao v)]
 | (y,u)::r=>bif x==y then(y,ao v)::r else(y,u)::put r x v
theorem dB(y z:Str)(u:bn V)(r:Nv):((z,u)::r).lookup y=if y=z then ao u else r.lookup y:=by
 rw[List.lookup]
 by_cases h:y=z
 ·subst h;rw[gy,cj rfl]
 ·rw[cc h,show (y==z)=aL by simpa using h]
theorem pO(x:Str)(v:V)(y:Str):∀ l:Nv,(put l x v).lookup y=if y=x then ao (ao v) else l.lookup y
 | []=>by rw[(by exact λx v=>rfl:∀(x:Str)(v:V),put [] x v= [(x,ao v)]),dB]
 | (z,u)::r=>by
  rw[(by exact λy u r x v=>rfl:∀(y:Str)(u:bn V)(r:Nv)(x:Str)(v:V),put ((y,u)::r) x v=bif x==y then(y,ao v)::r else(y,u)::put r x v)]
  by_cases h:x=z
  ·subst h
   rw[gy,f4,dB,dB]
   by_cases a:y=x
   ·rw[cj a,cj a]
   ·rw[cc a,cc a,cc a]
  ·rw[show (x==z)=aL by simpa using h,ik,dB,dB,pO]
   by_cases a:y=z
   ·rw[cj a,cc (λq=>h (q.symm.trans a)),cj a]
   ·rw[cc a,cc a]
theorem aD(l:Nv)(x:Str)(v:V):upd (look l) x v=look (put l x v):=by
 funext y
 show(if y=x then ao v else _)=match (put l x v).lookup y with |some o=>o |none=>none
 rw[pO]
 by_cases h:y=x
 ·rw[cj h,cj h]
 ·rw[cc h,cc h];rfl
theorem kch{B:Prop}(h:A=B)(b:B):A:=h.mpr b
structure GoK(I:Lo->MH->Prop)(Q K:SK):Prop where
 nx:∀ {lo H},I lo H->K .next lo H
 ct:∀ {lo H},I lo H->K .cont lo H
 br:∀ {lo H},Q .next lo H->K .brk lo H
 rt:∀ {v lo H},Q (.ret v) lo H->K (.ret v) lo H
theorem GoK.loop{a:Lo->MH->SK->Prop}(h:∀ {lo H},I lo H->a lo H Q):GoK I Q (v4 a Q):=⟨h,h,id,id⟩
theorem dJ(b:aq V->Lo->MH->Prop)(d:∀ {a lo H},b a lo H->lst H (.ref r)=ao vs)(f:∀ {lo H},b [] lo H->Q .next lo H)(hs:∀ {v a lo H K},b (v::a) lo H->GoK (b a) Q K->tgt v lo H λlo1 H1=>body lo1 H1 K):∀ (a:aq V) (p:Nat){lo:Lo}{H:MH},vs.drop p=a->b a lo H->cZ (bA C) tgt body (a.length+1) (r,p) lo H Q:=λn=>by
 induction n with
 |nil=>
  refine λp lo H c h=>(Lf.mk (p:=none) ?_ (f h))
  show(lst H (.ref r)).map _=_
  rw[d h,pd,ft (mj.mp c)];rfl
 |cons v a e=>
  intro p lo H c h
  have g:vs[p]? =ao v:=by rw[<-qa,c];rfl
  refine Lf.mk (p:=ao (v,(r,p+1))) ?_ ?_
  ·show(lst H (.ref r)).map _=_
   rw[d h,pd,g];rfl
  ·exact hs h (.loop λh'=>e (p+1) (by rw[<-qb,c];rfl) h')
theorem oS(a:Int->Lo->MH->Prop)(d:∀ {lo H},a e lo H->Q .next lo H)(hs:∀ {x lo H K},x<e->a x lo H->GoK (a (x+1)) Q K->tgt (.int x) lo H λlo1 H1=>body lo1 H1 K):∀ (n:Nat) (x:Int){lo:Lo}{H:MH},x+n=e->a x lo H->cZ (d8 C) tgt body (n+1) (x,n,1) lo H Q:=λn=>by
 induction n with
 |zero=>
  intro x lo H b h
  have:=A162 b
  subst this
  exact d h
 |succ n c=>
  exact λx lo H b h=>(hs (A163 b) h (.loop λh'=>c (x+1) (A164 b) h'))
theorem while_{b:SF}(a:Nat->Lo->MH->Prop)(hs:∀ {m lo H},a m lo H->t lo H λc H1=>bif c then ∀ K,GoK (λlo' H'=>∃ m',m'<m/\a m' lo' H') Q K->b lo H1 K else Q .next lo H1)(d:∀ {lo H}{P f:cw->MH->Prop},t lo H P->(∀ c H',P c H'->f c H')->t lo H f):∀ (n m:Nat){lo:Lo}{H:MH},m<n->a m lo H->runW t b n lo H Q:=λn=>by
 induction n with
 |zero=>
  exact λq q q e q=>(ca e (Nat.not_lt_zero _))
 |succ n g=>
  intro m lo H e h
  exact d (hs h) λc H' p=>by
    cases c with
    |true=>exact p _ (.loop fun⟨m',i,j⟩=>g m' (h8 i (Nat.le_of_lt_succ e)) j)
    |false=>exact p
def LI(H:MH)(r:Nat)(l:aq Int):Prop:=lst H (.ref r)=ao (l.map V.int)
def Hx(H H':MH):Prop:=∀ (i:Nat) (m:MO),H[i]? =ao m->H'[i]? =ao m
theorem Hx.refl(H:MH):Hx H H:=λq q e=>e
theorem Hx.trans{H1:MH}(a:Hx H1 c)(b:Hx c d):Hx H1 d:=λi m e=>b i m (a i m e)
theorem Hx.app(H l:MH):Hx H (H++l):=λi m e=>by
 exact rwL (List.getElem?_append_left (List.getElem?_eq_some_iff.mp e).1) e
theorem Hx.set{H1:MH}(h:Hx H H1)(a:H[i]? =none):Hx H (H1.set i m):=λj x e=>by
 have:i≠j:=λq=>by rw[q,e]at a;exact cyM a
 exact rwL (ez this) (h j x e)
theorem Hx.lst(h:Hx H H')(e:lst H v=ao vs):lst H' v=ao vs:=by
 exact xEA (bt.mp e) λi a e=>xEA (bt.mp e) λm b e=>bt.mpr ⟨i,a,bt.mpr ⟨m,h _ _ b,e⟩⟩
theorem Hx.li(h:Hx H H')(e:LI H r l):LI H' r l:=h.lst e
theorem aU(H:MH)(m:MO):(H++[m])[H.length]? =ao m:=by simp
theorem v0(H:MH)(vs:aq V):lst (H++[.list vs]) (.ref H.length)=ao vs:=by
 show((H++[MO.list vs])[H.length]?).bind _=_
 rw[aU];rfl
theorem aH(H:MH):H[H.length]? =none:=ft (c5 _)
def B2J(H:MH)(b:aq Int)(f:Int->bn V):Prop:=∀ v,(f v=none/\Idx b v 0 [])\/∃ r js,f v=ao (.ref r)/\LI H r js/\Idx b v 0 js
theorem B2J.hx(h:B2J H b f)(e:Hx H H'):B2J H' b f:=λv=>(h v).imp_right fun⟨r,js,a,c,d⟩=>⟨r,js,a,e.li c,d⟩
structure SM(H:MH)(s ra rb rd rj n:Nat)(fs:Str->bn V)(f:Int->bn V)(a b:aq Int):Prop where
 o:H[s]? =ao (.inst fs)
 fa:fs "a" =ao (.ref ra)
 fb:fs "b" =ao (.ref rb)
 fd:fs "b2j" =ao (.ref rd)
 fj:fs "bjunk" =ao (.ref rj)
 ia:LI H ra a
 ib:LI H rb b
 d:H[rd]? =ao (.dict n f)
 j:H[rj]? =ao .eset
 bj:B2J H b f
 al:a.length<1000000
 bl:b.length<1000000
theorem SM.hx{rd:Nat}(h:SM H s ra rb rd c n fs f a b)(e:Hx H H'):SM H' s ra rb rd c n fs f a b:=⟨e _ _ h.o,h.fa,h.fb,h.fd,h.fj,e.li h.ia,e.li h.ib,e _ _ h.d,e _ _ h.j,h.bj.hx e,h.al,h.bl⟩
theorem o0(a:lo "self" =ao (.ref s))(b:H[s]? =ao (.inst fs))(c:fs x=ao v)(q:Q v H):eQ x (eN "self") lo H Q:=Lf.mk a (Lf.mk rfl (Lf.mk (by rw[b];rfl) (Lf.mk c q)))
theorem fW:∀ l:Nv,(l.all λp=>p.2.isNone)=be->look l=lo0
 | [],_=>rfl
 | (y,u)::r,h=>by
  rw[List.all_cons,Bool.and_eq_true]at h
  funext x
  show(match ((y,u)::r).lookup x with |some o=>o |none=>none)=none
  rw[dB]
  by_cases q:x=y
  ·rw[cj q];exact Option.isNone_iff_eq_none.mp h.1
  ·rw[cc q];exact congrFun (fW r h.2) x
theorem jI(h:f lo H λv H1=>g v lo H1 λlo' a=>K .next lo' a):cD f g lo H K:=h
theorem cC(h:f lo H λv H1=>K .next (upd lo x v) H1):bD x f lo H K:=h
theorem jH(h:f lo H λv H1=>K (.ret v) lo H1):gD f lo H K:=h
theorem aJ(h:f lo H (bM g K)):aB f g lo H K:=h
theorem zS(h:t lo H λb H1=>bif b then f lo H1 K else g lo H1 K):sIf t f g lo H K:=h
theorem cT(h:g lo H λvs H1=>vs.length<100/\Q (.tup vs) H1):aY g lo H Q:=h
theorem iF(h:Q (.ref H.length) (H++[.list []])):b8 esN lo H Q:=(by exact λ{g lo H Q} h a=>a h λvs H' z=>xA z λh1 c=>Lf.mk (by rw[mkL,cj h1]) c:∀{g:EFs}{lo:Lo}{H:MH}{Q:EK}(h:g lo H λvs H1=>vs.length<1000000/\Q (.ref H1.length) (H1++[.list vs]))(a:∀ {P b:aq V->MH->Prop},g lo H P->(∀ vs H',P vs H'->b vs H')->g lo H b),b8 g lo H Q) ⟨by decide,h⟩ (λp k=>k _ _ p)
theorem aO(h:f lo H λv H1=>g lo H1 λvs a=>Q (v::vs) a):esC f g lo H Q:=h
theorem bL(h:Q [] H):esN lo H Q:=h
theorem bE(h:f1 lo H λa H1=>f2 lo H1 λb c=>Lp (g a b c) Q):aA g f1 f2 lo H Q:=h
theorem b6(h:fs lo H λvs H1=>g vs H1 Q):aI g fs lo H Q:=h
theorem cB(h:Q v H):eK v lo H Q:=h
theorem aR(e:lo x=ao v)(h:Q v H):eN x lo H Q:=Lf.mk e h
theorem Lp.mk(e:o=ao (v,H))(h:Q v H):Lp o Q:=Lf.mk e h
theorem gU{K:ItK C}{a:IF K}{b:SF}(h:a lo H λit H1=>∃ n,cZ K tgt b n it lo H1 Q):d6 K a tgt b lo H Q:=h
def fE(s ra rb rd rj nt g:bn V)(al ah bl bh:Int)(bi bj bs i o2 o3 j k:bn V):Nv:=[("self",s),("alo",ao (.int al)),("ahi",ao (.int ah)),("blo",ao (.int bl)),("bhi",ao (.int bh)),("a",ra),("b",rb),("b2j",rd),("isbjunk",rj),("besti",bi),("bestj",bj),("bestsize",bs),("j2len",g),("nothing",nt),
  ("i",i),("j2lenget",o2),("newj2len",o3),("j",j),("k",k)]
def fN:Nv:=[("self",none),("alo",none),("ahi",none),("blo",none),("bhi",none),("a",none),("b",none),("b2j",none),("isbjunk",none),("besti",none),("bestj",none),("bestsize",none),("j2len",none),("nothing",none),
  ("i",none),("j2lenget",none),("newj2len",none),("j",none),("k",none)]
theorem flm_1{rd:Nat}(h:SM H s ra rb rd e n fs f a b)(k:K .next (look (fE (ao (.ref s)) (ao (.ref ra)) (ao (.ref rb)) (ao (.ref rd)) (ao (.scon e)) none none al d g c none none none none none none none none)) H):cS X (look (fE (ao (.ref s)) none none none none none none al d g c none none none none none none none none)) H K:=by
 delta cS
 refine jI (cT (aO (o0 ⋯ h.o h.fa (aO (o0 ⋯ h.o h.fb (aO (o0 ⋯ h.o h.fd (aO ((o0 ⋯ h.o h.fj (Lf.mk rfl (Lf.mk h.j ⟨rfl,bL ⟨Nat.lt_of_sub_eq_succ rfl,kch (B:=(4=4/\K .next (upd (upd (upd (upd (look (fE (ao (.ref s)) none none none none none none al d g c none none none none none none none none)) "a" (.ref ra)) "b" (.ref rb)) "b2j" (.ref rd)) "isbjunk" (.scon e)) H)) ⋯ ⟨rfl,?_⟩⟩⟩))))))))))))
 rw[aD,aD,aD,aD]
 exact kch ⋯ k
structure FC where
 s:Nat
 ra:Nat
 rb:Nat
 rd:Nat
 rj:Nat
 nt:Nat
 w:Wd
def fL(c:FC)(g:Nat)(bi bj bs:Int)(i o2 o3 j k:bn V):Lo:=look (fE (ao (.ref c.s)) (ao (.ref c.ra)) (ao (.ref c.rb)) (ao (.ref c.rd)) (ao (.scon c.rj)) (ao (.ref c.nt)) (ao (.ref g)) c.w.al c.w.ah c.w.bl c.w.bh (ao (.int bi)) (ao (.int bj)) (ao (.int bs)) i o2 o3 j k)
def rowB(C:Cx):SF:=aB (bD "j2lenget" (eBd .dget okD (eN "j2len"))) (aB (bD "newj2len" sN) (aB (d6 (bA C) (iL (eGet (eN "b2j") (aA aQ (eN "a") (eN "i")) (eN "nothing"))) (aN "j") uS) (aB (bD "j2len" (eN "newj2len")) (sK .next))))
theorem aKm{o2 o3:bn V}:aN "j" (.int j) (fL c g bi bj bs o1 o2 o3 o4 o5) H (λlo1 H1=>uS lo1 H1 K)=uS (fL c g bi bj bs o1 o2 o3 (ao (.int j)) o5) H K:=cu (λlo=>uS lo H K) (aD _ _ _)
theorem col_nf{o2 o3:bn V}:uS (fL c g bi bj bs o1 o2 o3 (ao (.int j)) o5) H K= (bif decide (j<c.w.bl) then K .cont (fL c g bi bj bs o1 o2 o3 (ao (.int j)) o5) H else bif decide (j>=c.w.bh) then K .brk (fL c g bi bj bs o1 o2 o3 (ao (.int j)) o5) H else colB3 (fL c g bi bj bs o1 o2 o3 (ao (.int j)) o5) H K):=by kernel_rfl
theorem yV{i:Nat}(h:H[i]? =ao (.dict n f)):H[i]?.bind MO.dct=ao (n,f):=by rw[h];rfl
theorem col3{a:Int->bn V}(e:H[g]? =ao (.dict n f))(i:H[gn]? =ao (.dict m a))(b:m<1000000)(l:(f (j-1)).getD (.int 0)= .int k)(h:aHg (fL c g bi bj bs (ao (.int x)) (ao (.dget g)) (ao (.ref gn)) (ao (.int j)) (ao (.int (k+1)))) (H.set gn (.dict (m+1) (dput a j (.int (k+1))))) K):colB3 (fL c g bi bj bs (ao (.int x)) (ao (.dget g)) (ao (.ref gn)) (ao (.int j)) o5) H K:=by
 refine kch (B:=Lf (H[g]?.bind MO.dct) λd=>Lp (aP ((d.2 (j-1)).getD (.int 0)) (.int 1) H) λv H1=>Lf (oSet (.ref gn) (.int j) v H1) λH3=>aHg (upd (fL c g bi bj bs (ao (.int x)) (ao (.dget g)) (ao (.ref gn)) (ao (.int j)) o5) "k" v) H3 K) ⋯ (Lf.mk (yV e) (Lp.mk (by rw[l];rfl) (Lf.mk (p:=H.set gn (.dict (m+1) (dput a j (.int (k+1))))) (rwL i (cj b):H[gn]?.bind (setO H gn j (.int (k+1)))=_) ?_)))
 ·delta fL
  rw[aD]
  exact h
theorem col4{o2 o3:bn V}(h:K .next (fL c g (if bs<k then x-k+1 else bi) (if bs<k then j-k+1 else bj) (if bs<k then k else bs) (ao (.int x)) o2 o3 (ao (.int j)) (ao (.int k))) H):aHg (fL c g bi bj bs (ao (.int x)) o2 o3 (ao (.int j)) (ao (.int k))) H K:=by
 refine kch (B:=(bif decide (k>bs) then((3<100)/\3=3/\K .next (upd (upd (upd (fL c g bi bj bs (ao (.int x)) o2 o3 (ao (.int j)) (ao (.int k))) "bestsize" (.int k)) "bestj" (.int (j-k+1))) "besti" (.int (x-k+1))) H)
  else K .next (fL c g bi bj bs (ao (.int x)) o2 o3 (ao (.int j)) (ao (.int k))) H)) ⋯ ?_
 by_cases q:bs<k
 ·rw[cj q,cj q,cj q]at h
  refine rwL (show decide (k>bs)=be from bp q) ⟨by decide,rfl,?_⟩
  delta fL
  rw[aD,aD,aD]
  exact h
 ·rw[cc q,cc q,cc q]at h
  exact rwL (show decide (k>bs)=aL from bw q) h
inductive CI(a b:aq Int)(c:FC)(g gn:Nat)(x v:Int)(Hr:MH)(rest:aq V)(lo:Lo)(H:MH):Prop
 |mk {js:aq Int}{y bi bj bs:Int}{m:Nat}{fn:Int->bn V}{gi:Int->bn Int}{o4 o5:bn V} (er:rest=js.map .int) (el:lo=fL c g bi bj bs (ao (.int x)) (ao (.dget g)) (ao (.ref gn)) o4 o5) (hx:Hx Hr H) (hn:H[gn]? =ao (.dict m fn))
   (hm:m+js.length<1000000) (hf:∀ c,fn c=(gi c).map V.int) (row:Row a b c.w x (max c.w.bl y) gi) (bu:BU a b c.w x (max c.w.bl y) bi bj bs) (ix:Idx b v y js) (yb:y<=c.w.bh):CI a b c g gn x v Hr rest lo H
inductive CE(a b:aq Int)(c:FC)(g gn:Nat)(x:Int)(Hr:MH)(lo:Lo)(H:MH):Prop
 |mk {bi bj bs:Int}{m:Nat}{fn:Int->bn V}{gi:Int->bn Int}{o4 o5:bn V} (el:lo=fL c g bi bj bs (ao (.int x)) (ao (.dget g)) (ao (.ref gn)) o4 o5) (hx:Hx Hr H) (hn:H[gn]? =ao (.dict m fn)) (hf:∀ c,fn c=(gi c).map V.int)
   (row:Row a b c.w x c.w.bh gi) (bu:BU a b c.w x c.w.bh bi bj bs):CE a b c g gn x Hr lo H
theorem CE.of(t:lo=fL c g bi bj bs (ao (.int x)) (ao (.dget g)) (ao (.ref gn)) o4 o5)(p:Hx k H)(u:H[gn]? =ao (.dict m i))(s:∀ c,i c=(gi c).map V.int)(e:Row a b c.w x (max c.w.bl y) gi)(q:BU a b c.w x (max c.w.bl y) bi bj bs)(d:∀ z,y<=z->z<c.w.bh->av b z≠av a x)(j:c.w.bl<=c.w.bh)(l:y<=c.w.bh):CE a b c g gn x k lo H:=by
 exact .mk t p u s (e.skip (vJ.mpr ⟨j,l⟩) λz f h r n=>d z (dt (qx _ _) f) h n.symm) (q.skip (vJ.mpr ⟨j,l⟩) λz f h r n o=>d z (dt (qx _ _) f) h o.symm)
theorem Row.pos(h:Row a b w x y g)(c:Int):0<=(g c).getD 0:=by
 have:=h c
 split at this
 ·exact xEA this λk e s=>rwL e s.k0
 ·exact rwL this (Int.le_refl _)
theorem aHf{c:FC}(W:t[g]? =ao (.dict n f))(hf0:∀ c,f c=(g0 c).map V.int)(p:Row a b c.w (x-1) c.w.bh g0)(N:t[gn]? =none)(B:c.w.al<=x)(L:x<c.w.ah)(M:c.w.bl<=c.w.bh)(I:c.w.bh<=b.length)(hv:v=av a x)(hr:LI t r js)(h:CI a b c g gn x v t (js.map .int) lo H)(S:∀ {lo H},CE a b c g gn x t lo H->Q .next lo H):cZ (bA C) (aN "j") uS ((js.map V.int).length+1) (r,0) lo H Q:=by
 subst hv
 refine dJ (CI a b c g gn x (av a x) t) (λh=>?_) (λh=>?_) (λh G=>?_) _ 0 rfl h
 ·cases h with |mk _ _ o=>exact o.li hr
 ·cases h with
  |mk P J o u F A i D k K=>
   cases jc.mp P.symm
   cases k with
   |nil k=>
   exact S (CE.of J o u A i D (λz d s=>k z d (Int.lt_of_lt_of_le s I)) M K)
 ·cases h with
  | @mk js y bi bj bs m fn gi o4 o5 P J o u F A i D k K=>
   refine bV (List.map_eq_cons_iff.mp P.symm) λj ad Z e2 X=>?_
   subst Z e2 X
   refine rwL J (kch aKm (kch col_nf ?_))
   have O:=k.no
   cases k with
   |cons d hl e _ k=>
   by_cases q:j<c.w.bl
   ·refine rwL (bp q) (G.ct (.mk rfl rfl o u (Nat.lt_of_succ_lt F) A ?_ ?_ k (dt (Int.add_one_le_of_lt q) M)))
    ·rw[n4 (Int.add_one_le_of_lt q)]
     rwa [n4 (ip (Int.lt_of_le_of_lt d q))]at i
    ·rw[n4 (Int.add_one_le_of_lt q)]
     rwa [n4 (ip (Int.lt_of_le_of_lt d q))]at D
   ·rw[bw q]
    by_cases l:j>=c.w.bh
    ·exact rwL (bp l) (G.br (S (CE.of rfl o u A i D (λz d s=>O z d (Int.lt_of_lt_of_le s l)) M K)))
    ·rw[bw l]
     have q:=lr.mp q
     have l:=not_le.mp l
     have T:=p.next B q l e.symm
     have hk:(f (j-1)).getD (.int 0)= .int ((g0 (j-1)).getD 0):=by rw[hf0];cases g0 (j-1)<;>rfl
     refine col3 (o _ _ W) u (ec (lq _ _) F) hk (col4 (G.nx (.mk rfl rfl (o.set N) (by rw[ef (List.getElem?_eq_some_iff.mp u).1]) ?_ (gi:=λc=>if c=j then ao ((g0 (j-1)).getD 0+1) else gi c) ?_ ?_ ?_ k (Int.add_one_le_of_lt l))))
     ·exact ec (se (Nat.add_right_comm _ _ _)) F
     ·intro z
      delta dput
      by_cases E:z=j
      ·rw[cj E,cj E];rfl
      ·rw[cc E,cc E];exact A z
     ·exact rwL (mz (dt q (Int.le_add_one (Int.le_refl j)))) ((i.skip (vJ.mpr ⟨q,d⟩) λz d s Y R=>O z (dt (qx _ _) d) s R.symm).step q B e.symm T)
     ·exact rwL (mz (dt q (Int.le_add_one (Int.le_refl j)))) ((D.skip (vJ.mpr ⟨q,d⟩) λz d s Y R U=>O z (dt (qx _ _) d) s U.symm).step T L l (Int.lt_add_one_of_le (Row.pos p _)))
theorem fS{x:Int}{n:Nat}(a:0<=x)(b:x<n):jg x n=ao x.toNat:=by
 unfold jg
 exact rwL (cc (lr.mpr a)) (cj (by rw[bp a,bp b];rfl))
theorem fV{x:Int}(h:LI H r l)(b:0<=x)(a:x<l.length)(c:l.length<1000000):aQ (.ref r) (.int x) H=ao (.int (av l x),H):=by
 show((lst H (.ref r)).bind (at_ x)).map _=_
 rw[h]
 show(at_ x (l.map V.int)).map _=_
 delta at_
 rw[cj ⟨zzI1 0x16807da1ec3283d1400a803d087 [x] ⋯ b,A166 a c⟩,bq,fS b a]
 show((l.map V.int)[x.toNat]?).map _=_
 rw[(by
  intro l x b a
  delta av
  rw[ma,c4,cg ((Int.toNat_lt b).mpr a)];rfl:∀{l:aq Int}{x:Int}(b:0<=x)(a:x<l.length),(l.map V.int)[x.toNat]? =ao (.int (av l x))) b a];rfl
theorem Idx.len(h:Idx b v y js)(c:y<=b.length):y+js.length<=b.length:=by
 induction h with
 |nil _=>simpa using c
 |cons a d _ _ _ e=>
  exact rwL e6 (A167 a (e (Int.add_one_le_of_lt d)))
def rowB3(C:Cx):SF:=aB (d6 (bA C) (iL (eGet (eN "b2j") (aA aQ (eN "a") (eN "i")) (eN "nothing"))) (aN "j") uS) (aB (bD "j2len" (eN "newj2len")) (sK .next))
inductive RI(a b:aq Int)(c:FC)(H2:MH)(x:Int)(lo:Lo)(H:MH):Prop
 |mk {g n:Nat}{bi bj bs:Int}{f:Int->bn V}{g0:Int->bn Int}{o1 o2 o3 o4 o5:bn V} (el:lo=fL c g bi bj bs o1 o2 o3 o4 o5) (hx:Hx H2 H) (hg:H[g]? =ao (.dict n f)) (hf:∀ c,f c=(g0 c).map V.int)
   (row:Row a b c.w (x-1) c.w.bh g0) (bu:BU a b c.w x c.w.bl bi bj bs) (hx0:c.w.al<=x):RI a b c H2 x lo H
theorem aD5(h:SM k c.s c.ra c.rb c.rd c.rj n fs f a b)(X:LI k c.nt [])(w:WOk a b c.w)(F:x<c.w.ah)(I:RI a b c k x lo H)(G:GoK (RI a b c k (x+1)) Q K):aN "i" (.int x) lo H λlo1 H1=>rowB C lo1 H1 K:=by
 cases I with
 | @mk g Z o t q f0 g0 o1 o2 o3 y j M L D W R Y z=>
 refine rwL M (kch (cu (λlo=>rowB C lo H K) (aD _ _ _)) ((by
  intro n f D h
  refine kch (B:=Lf H[g]? λm=>okD m=be/\rowB3 C (upd (upd (fL c g o t q (ao (.int x)) o2 o3 y j) "j2lenget" (.dget g)) "newj2len" (.ref H.length)) (H++[.dict 0 λ_=>Option.none]) K) ⋯ (Lf.mk D ⟨rfl,?_⟩)
  delta fL
  rw[aD,aD]
  exact h:∀{n:Nat}{f:Int->bn V}(D:H[g]? =ao (.dict n f))(h:rowB3 C (fL c g o t q (ao (.int x)) (ao (.dget g)) (ao (.ref H.length)) y j) (H++[.dict 0 λ_=>Option.none]) K),rowB C (fL c g o t q (ao (.int x)) o2 o3 y j) H K) D ?_))
 have A:Hx H (H++[.dict 0 λ_=>Option.none]):=.app _ _
 have h':=h.hx (L.trans A)
 refine kch (B:=(∃ n g,(H++[MO.dict 0 λ_=>Option.none])[c.rd]? =ao (.dict n g))/\Lp (aQ (.ref c.ra) (.int x) (H++[.dict 0 λ_=>Option.none])) λu k=>Lf (Ti u) λv=>Lf (k[c.rd]?.bind MO.dct) λp=>Lf ((p.2 v).getD (.ref c.nt)).rf λi=>(∃ vs,lst k (.ref i)=ao vs)/\
  ∃ n,cZ (bA C) (aN "j") uS n (i,0) (fL c g o t q (ao (.int x)) (ao (.dget g)) (ao (.ref H.length)) y j) k (bM (aB (bD "j2len" (eN "newj2len")) (sK .next)) K)) ⋯ ?_
 refine⟨⟨_,_,h'.d⟩,Lp.mk (fV h'.ia (dt w.a0 z) (Int.lt_of_lt_of_le F w.a2) h'.al) (Lf.mk rfl (Lf.mk (yV h'.d) ?_))⟩
 have P:∀ {lo J},CE a b c g H.length x H lo J->bM (aB (bD "j2len" (eN "newj2len")) (sK .next)) K .next lo J:=λ{lo J} e=>by
  cases e with
  | @mk o t q m fn gi y j M O U N E S=>
  refine rwL M (kch (B:=K .next (upd (fL c g o t q (ao (.int x)) (ao (.dget g)) (ao (.ref H.length)) y j) "j2len" (.ref H.length)) J) ⋯ (G.nx (.mk (aD _ _ _) (L.trans O) U N ?_ S.row (dt z (Int.le_add_one (Int.le_refl _))))))
  rw[Int.add_sub_cancel];exact E
 have start:∀ {js:aq Int},Idx b (av a x) 0 js->CI a b c g H.length x (av a x) H (js.map .int) (fL c g o t q (ao (.int x)) (ao (.dget g)) (ao (.ref H.length)) y j) (H++[.dict 0 λ_=>Option.none]):=λ{js} l=>
  .mk rfl rfl A (aU _ _) (by have:=l.len (eO _);have:=h.bl;omega) (λ_=>rfl) (.zero (.inr (vJ.mpr ⟨Int.le_refl _,w.b0⟩))) (by exact rwL (n4 w.b0) Y) l (dt w.b0 w.b1)
 have T:∀ {r:Nat}{js:aq Int},LI H r js->Idx b (av a x) 0 js->Lf (V.ref r).rf λi=>(∃ vs,lst (H++[MO.dict 0 λ_=>Option.none]) (.ref i)=ao vs)/\
   ∃ n,cZ (bA C) (aN "j") uS n (i,0) (fL c g o t q (ao (.int x)) (ao (.dget g)) (ao (.ref H.length)) y j) (H++[.dict 0 λ_=>Option.none]) (bM (aB (bD "j2len" (eN "newj2len")) (sK .next)) K):=λhr l=>
  ⟨⟨_,A.li hr⟩,_,aHf D W R (aH H) z F w.b1 w.b2 rfl hr (start l) P⟩
 rcases h.bj (av a x) with ⟨e,l⟩ |⟨r,js,e,hr,l⟩
 ·exact(rwL e (T (L.li X) l):Lf ((f (av a x)).getD (.ref c.nt)).rf _)
 ·exact(rwL e (T (L.li hr) l):Lf ((f (av a x)).getD (.ref c.nt)).rf _)
theorem flm_26(R:SF){rd:Nat}{a b:Int}(h:R (fL ⟨s,ra,rb,rd,d,H.length+1,⟨al,c,a,b⟩⟩ H.length al a 0 none none none none none) ((H++[.dict 0 λq=>Option.none])++[.list []]) K):aB (eI X) (aB (eG X) (aB (eF X) (aB (eE X) (aB (eD X) R)))) (look (fE (ao (.ref s)) (ao (.ref ra)) (ao (.ref rb)) (ao (.ref rd)) (ao (.scon d)) none none al c a b none none none none none none none none)) H K:=by
 refine kch (B:=(3<100/\3=3/\R (upd (upd (upd (upd (upd (look (fE (ao (.ref s)) (ao (.ref ra)) (ao (.ref rb)) (ao (.ref rd)) (ao (.scon d)) none none al c a b none none none none none none none none)) "bestsize" (.int 0)) "bestj" (.int a)) "besti" (.int al)) "j2len" (.ref H.length)) "nothing" (.ref (H++[MO.dict 0 λq=>Option.none]).length)) ((H++[.dict 0 λq=>Option.none])++[.list []]) K)) ⋯ ⟨by decide,rfl,?_⟩
 rw[aD,aD,aD,aD,aD,show (H++[MO.dict 0 λq=>Option.none]).length=H.length+1 from by simp]
 exact h
theorem flm_7(h:SM H c.s c.ra c.rb c.rd c.rj n fs f a b)(e:LI H c.nt [])(d:H[g]? =ao (.dict 0 λq=>Option.none))(w:WOk a b c.w)(k:∀ {g bi bj bs o1 o2 o3 o4 o5 H'},Hx H H'->Best a b c.w bi bj bs->K .next (fL c g bi bj bs o1 o2 o3 o4 o5) H'):eB X (fL c g c.w.al c.w.bl 0 none none none none none) H K:=by
 refine kch (B:=(rOk c.w.al c.w.ah 1=be/\∃ n,cZ (d8 C) (aN "i") (rowB C) n (c.w.al,sZ c.w.al c.w.ah 1,1) (fL c g c.w.al c.w.bl 0 none none none none none) H K)) ⋯ ⟨?_,_,oS (RI a b c H) (λr=>?_) (λhx r G=>aD5 h e w hx r G) _ _ ?_ (.mk rfl (.refl H) d (λq=>rfl) (.zero (.inl (Int.sub_one_lt_of_le (Int.le_refl _)))) (.start w.a1 w.b1) (Int.le_refl _))⟩
 ·have:=w.a0;have:=w.a1;have:=w.a2;have:=h.al
  delta rOk
  rw[bp (by omega: -1000000<c.w.al),bp (by omega:c.w.al<1000000),bp (by omega: -1000000<c.w.ah),bp (by omega:c.w.ah<1000000)]
  rfl
 ·cases r with
  |mk i hx d o l m j=>
   exact rwL i (k hx m.done)
 ·exact(zzI1 0x525129a28a29044128003a68087 [c.w.al,c.w.ah] ⋯ w.a1:c.w.al+((c.w.ah-c.w.al).toNat:Int)=c.w.ah)
theorem ab_eq{i j:Int}{Q:cw->MH->Prop}(m:LI H ra a)(k:LI H rb b)(al:a.length<1000000)(l:b.length<1000000)(g:0<=i)(i1:i<a.length)(n:0<=j)(f:j<b.length)(q:Q (decide (av a i=av b j)) H):Lp (aQ (.ref ra) (.int i) H) λa e=>Lp (aQ (.ref rb) (.int j) e) λb h=>Lp (bN id a b h) λv d=>Lf (tr v d) λc=>Q c d:=Lp.mk (fV m g i1 al) (Lp.mk (fV k n f l) (Lp.mk (v:=.bool (decide (av a i=av b j))) ⋯ (Lf.mk rfl q)))
theorem Best.left(h:Best a b w i j k)(f:w.al<i)(r:w.bl<j):av a (i-1)≠av b (j-1):=λe=>by
 have n:=h.n
 have d:=n.i1;have l:=n.j1;have c:=n.k0
 have g:=h.g (i-1) (j-1) (k+1) ⟨A169 f,A170 d,A169 r,A170 l,A171 c,λt o p=>?_⟩ (A172 c)
 ·rcases g with g |⟨g,_⟩<;>omega
 ·by_cases q:t=0
  ·rw[q,nh,nh];exact e
  ·exact rwL (show i-1+t=i+(t-1) from A175) (rwL (show j-1+t=j+(t-1) from A175) (n.m (t-1) (zzI2 0x2a81f68040f42a00f680c41e803d087 [t] ⋯ o q) (zzI1 0x16907d07da0100207da4007da00087 [t,k] ⋯ p)))
theorem Best.right(h:Best a b w i j k)(d:i+k<w.ah)(p:j+k<w.bh):av a (i+k)≠av b (j+k):=λe=>by
 have n:=h.n
 have o:=n.j0;have c:=n.k0
 have g:=h.g i j (k+1) ⟨A176 n.i0,A177 d,A176 o,A177 p,A171 c,λt f l=>?_⟩ (A172 c)
 ·rcases g with g |⟨g,_⟩<;>omega
 ·by_cases q:t=k
  ·exact rwL q e
  ·exact n.m t f (A132 l q)
theorem flm_8{o2 o3:bn V}(h:SM H c.s c.ra c.rb c.rd c.rj n fs f a b)(w:WOk a b c.w)(B:Best a b c.w bi bj bs)(k:K .next (fL c g bi bj bs o1 o2 o3 o4 o5) H):eA X (fL c g bi bj bs o1 o2 o3 o4 o5) H K:=by
 refine⟨1,kch (B:=(bif decide (bi>c.w.al) then bif decide (bj>c.w.bl) then Lp (aQ (.ref c.rb) (.int (bj-1)) H) λv H1=>Lf ((one [v]).bind Ti) λk=>H1[c.rj]? =ao .eset/\
  (Lp (aQ (.ref c.ra) (.int (bi-1)) H1) λa q=>Lp (aQ (.ref c.rb) (.int (bj-1)) q) λb u=>Lp (bN id a b u) λv i=>Lf (tr v i) λt=>bif t then
   aB (cL ["besti","bestj","bestsize"] (aY (esC (aA cP (eN "besti") (eK (.int 1))) (esC (aA cP (eN "bestj") (eK (.int 1))) (esC (aA aP (eN "bestsize") (eK (.int 1))) esN))))) (sK .next) (fL c g bi bj bs o1 o2 o3 o4 o5) i (v4 (λy y y=>fm) K)
   else K .next (fL c g bi bj bs o1 o2 o3 o4 o5) i) else K .next (fL c g bi bj bs o1 o2 o3 o4 o5) H else K .next (fL c g bi bj bs o1 o2 o3 o4 o5) H)) ⋯ ?_⟩
 have p:=B.n.j1;have l:=B.n.k0;have r:=w.a0;have x:=w.a2;have o:=w.b0;have m:=w.b2
 by_cases e:c.w.al<bi
 ·rw[bp e,f4]
  by_cases d:c.w.bl<bj
  ·rw[bp d,f4]
   exact Lp.mk (fV h.ib (A178 o d) (A179 p l m) h.bl) (Lf.mk rfl ⟨h.j,ab_eq h.ia h.ib h.al h.bl (A178 r e) (A179 B.n.i1 l x) (A178 o d) (A179 p l m) (rwL (bw (B.left e d)) k)⟩)
  ·rw[bw d];exact k
 ·rw[bw e];exact k
theorem flm_9{o2 o3:bn V}(h:SM H c.s c.ra c.rb c.rd c.rj n fs f a b)(w:WOk a b c.w)(B:Best a b c.w bi bj bs)(k:K .next (fL c g bi bj bs o1 o2 o3 o4 o5) H):d9 X (fL c g bi bj bs o1 o2 o3 o4 o5) H K:=by
 refine⟨1,kch (B:=(bif decide (bi+bs<c.w.ah) then bif decide (bj+bs<c.w.bh) then Lp (aQ (.ref c.rb) (.int (bj+bs)) H) λv H1=>Lf ((one [v]).bind Ti) λk=>H1[c.rj]? =ao .eset/\
  (Lp (aQ (.ref c.ra) (.int (bi+bs)) H1) λa q=>Lp (aQ (.ref c.rb) (.int (bj+bs)) q) λb u=>Lp (bN id a b u) λv i=>Lf (tr v i) λt=>bif t then
   aB (sY "bestsize" s9 (eK (.int 1))) (sK .next) (fL c g bi bj bs o1 o2 o3 o4 o5) i (v4 (λy y y=>fm) K)
   else K .next (fL c g bi bj bs o1 o2 o3 o4 o5) i) else K .next (fL c g bi bj bs o1 o2 o3 o4 o5) H else K .next (fL c g bi bj bs o1 o2 o3 o4 o5) H)) ⋯ ?_⟩
 have p:=B.n.j0;have l:=B.n.k0;have r:=w.a0;have x:=w.a2;have o:=w.b0;have m:=w.b2
 by_cases e:bi+bs<c.w.ah
 ·rw[bp e,f4]
  by_cases d:bj+bs<c.w.bh
  ·rw[bp d,f4]
   exact Lp.mk (fV h.ib (A180 p l o) (A181 m d) h.bl) (Lf.mk rfl ⟨h.j,ab_eq h.ia h.ib h.al h.bl (A180 B.n.i0 l r) (A181 x e) (A180 p l o) (A181 m d) (rwL (bw (B.right e d)) k)⟩)
  ·rw[bw d];exact k
 ·rw[bw e];exact k
theorem flm_10{o2 o3:bn V}(h:SM H c.s c.ra c.rb c.rd c.rj n fs f a b)(w:WOk a b c.w)(B:Best a b c.w bi bj bs)(k:K .next (fL c g bi bj bs o1 o2 o3 o4 o5) H):dZ X (fL c g bi bj bs o1 o2 o3 o4 o5) H K:=by
 refine⟨1,kch (B:=(bif decide (bi>c.w.al) then bif decide (bj>c.w.bl) then Lp (aQ (.ref c.rb) (.int (bj-1)) H) λv H1=>Lf ((one [v]).bind Ti) λk=>H1[c.rj]? =ao .eset/\
  (K .next (fL c g bi bj bs o1 o2 o3 o4 o5) H1) else K .next (fL c g bi bj bs o1 o2 o3 o4 o5) H else K .next (fL c g bi bj bs o1 o2 o3 o4 o5) H)) ⋯ ?_⟩
 have m:=B.n.j1;have o:=B.n.k0;have i:=w.b0;have l:=w.b2
 by_cases e:bi>c.w.al
 ·rw[bp e,f4]
  by_cases d:bj>c.w.bl
  ·rw[bp d,f4]
   exact Lp.mk (fV h.ib (A178 i d) (A179 m o l) h.bl) (Lf.mk rfl ⟨h.j,k⟩)
  ·rw[bw d];exact k
 ·rw[bw e];exact k
theorem flm_11{o2 o3:bn V}(h:SM H c.s c.ra c.rb c.rd c.rj n fs f a b)(w:WOk a b c.w)(B:Best a b c.w bi bj bs)(k:K .next (fL c g bi bj bs o1 o2 o3 o4 o5) H):dY X (fL c g bi bj bs o1 o2 o3 o4 o5) H K:=by
 refine⟨1,kch (B:=(bif decide (bi+bs<c.w.ah) then bif decide (bj+bs<c.w.bh) then Lp (aQ (.ref c.rb) (.int (bj+bs)) H) λv H1=>Lf ((one [v]).bind Ti) λk=>H1[c.rj]? =ao .eset/\
  (K .next (fL c g bi bj bs o1 o2 o3 o4 o5) H1) else K .next (fL c g bi bj bs o1 o2 o3 o4 o5) H else K .next (fL c g bi bj bs o1 o2 o3 o4 o5) H)) ⋯ ?_⟩
 have m:=B.n.j0;have o:=B.n.k0;have i:=w.b0;have l:=w.b2
 by_cases e:bi+bs<c.w.ah
 ·rw[bp e,f4]
  by_cases d:bj+bs<c.w.bh
  ·rw[bp d,f4]
   exact Lp.mk (fV h.ib (A180 m o i) (A181 l d) h.bl) (Lf.mk rfl ⟨h.j,k⟩)
  ·rw[bw d];exact k
 ·rw[bw e];exact k
theorem flm_ok{rd:Nat}(h:SM H s ra rb rd p n fs f a b)(w:WOk a b ⟨al,l,c,d⟩)(k:∀ {i j k H'},Hx H H'->Best a b ⟨al,l,c,d⟩ i j k->Q (.mat i j k) H'):bW X [.ref s,.int al,.int l,.int c,.int d] H Q:=by
 refine⟨rfl,?_⟩
 show c8 X (loB ["self","alo","ahi","blo","bhi"] [.ref s,.int al,.int l,.int c,.int d] lo0) H (jJ Q)
 rw[(by
  intro s al l c d
  rw[<-fW fN ⋯]
  show upd (upd (upd (upd (upd (look fN) "self" s) "alo" (.int al)) "ahi" (.int l)) "blo" (.int c)) "bhi" (.int d)=_
  rw[aD,aD,aD,aD,aD]
  kernel_rfl:∀(s al l c d),loB ["self","alo","ahi","blo","bhi"] [s,.int al,.int l,.int c,.int d] lo0=look (fE (ao s) none none none none none none al l c d none none none none none none none none))]
 refine flm_1 X h (flm_26 X _ ?_)
 have e:=(Hx.app H [.dict 0 λy=>Option.none]).trans (Hx.app _ [.list []])
 refine flm_7 X (h.hx e) ?_ ?_ w λ{g r u t x o2 o3 v q H'} o B=>?_
 ·have:=v0 (H++[.dict 0 λy=>Option.none]) []
  rw[bx]at this
  exact this
 ·exact Hx.app _ _ _ _ (aU H _)
 have m:=(h.hx e).hx o
 exact flm_8 X m w B (flm_9 X m w B (flm_10 X m w B (flm_11 X m w B (kch ⋯ (k (e.trans o) B)))))
theorem bC{Q:Prop}(h:Q):bif aL then P else Q:=h
theorem bH{Q:Prop}(h:P):bif be then P else Q:=h
theorem aFy{s:Nat}(h:H[s]? =ao (.inst fs)):H[s]?.bind MO.ins=ao fs:=by rw[h];rfl
theorem aK(h:H[i]? =ao m)(m':MO):(H.set i m')[i]? =ao m':=by
 rw[ef (List.getElem?_eq_some_iff.mp h).1]
theorem aE(h:H[j]? =ao m)(n:i≠j):(H.set i m')[j]? =ao m:=by
 exact rwL (ez n) h
def St(s:Nat)(x:Str)(v:V)(H:MH)(k:MH->Prop):Prop:=Lf (H[s]?.bind MO.ins) λfs=>k (H.set s (.inst (fput fs x v)))
def At(s:Nat)(x:Str)(H:MH)(k:V->Prop):Prop:=Lf (H[s]?.bind MO.ins) λfs=>Lf (fs x) k
theorem St.mk(h:H[s]? =ao (.inst fs))(q:k (H.set s (.inst (fput fs x v)))):St s x v H k:=Lf.mk (aFy h) q
theorem At.mk(h:H[s]? =ao (.inst fs))(e:fs x=ao v)(q:k v):At s x H k:=Lf.mk (aFy h) (Lf.mk e q)
def fs1(fs:Str->bn V)(r:Nat):Str->bn V:=fput (fput (fput fs "a" (.ref r)) "matching_blocks" .none) "opcodes" .none
theorem vK(h:H[s]? =ao (.inst fs))(a:fs "a" =ao .none)(k:Q .none (H.set s (.inst (fs1 fs ra)))):iQ X [.ref s,.ref ra] H Q:=by
 refine kch (B:=(2=2/\At s "a" H λv=>Lp (oIs id (.ref ra) v H) λv H1=>Lf (tr v H1) λb=>bif b then Q .none H1 else St s "a" (.ref ra) H1 λH2=>St s "matching_blocks" .none H2 λH3=>St s "opcodes" .none H3 λH4=>Q .none H4)) ⋯
  ⟨rfl,At.mk h a (Lp.mk rfl (Lf.mk rfl (bC (St.mk h (St.mk (aK h _) (St.mk (aK (aK h _) _) ?_))))))⟩
 rw[qw,qw];exact k
def fs2(fs:Str->bn V)(r:Nat):Str->bn V:=fput (fput (fput (fput fs "b" (.ref r)) "matching_blocks" .none) "opcodes" .none) "fullbcount" .none
def js(b:aq Int)(v:Int):Nat->aq Int
 |0=>[]
 |p+1=>js b v p++if av b p=v then [(p:Int)] else []
theorem js_c(b:aq Int)(v:Int)(p:Nat):js b v (p+1)=js b v p++if av b p=v then [(p:Int)] else []:=rfl
theorem Idx.low{js:aq Int}{lo:Int}(h:Idx b v (lo+1) js)(e:av b lo≠v):Idx b v lo js:=by
 have g:∀ c:Int,lo<=c->(lo+1<=c->av b c≠v)->av b c≠v:=λc d f=>by
  rcases Int.lt_or_eq_of_le d with q |q
  ·exact f q
  ·exact q▸e
 cases h with
 |nil n=>exact .nil λc d f=>g c d λq=>n c q f
 |cons d f i n r=>exact .cons (dt (Int.le_add_one (Int.le_refl _)) d) f i (λc a b=>g c a λq=>n c q b) r
theorem aFv:∀ {p:Nat}{a:aq Int},p<=b.length->Idx b v p a->Idx b v 0 (js b v p++a):=λ{n}=>by
 induction n with
 |zero=>
  intro _ _ h
  exact h
 |succ p f=>
  intro a c h
  rw[js_c,cz]
  refine f (Nat.le_of_succ_le c) ?_
  by_cases q:av b p=v
  ·exact rwL (cj q) (.cons (Int.le_refl _) (Int.ofNat_lt.mpr c) q (λc d e=>ca e (lr.mpr d)) h)
  ·rw[cc q]
   exact Idx.low h q
structure Bk(B:MH)(s rd:Nat)(b:aq Int)(p:Nat)(f:Int->bn V)(H:MH):Prop where
 g:∀ v,(f v=none/\js b v p= [])\/∃ r,f v=ao (.ref r)/\H[r]? =ao (.list ((js b v p).map V.int))/\B[r]? =none/\r≠s/\r≠rd
 i:∀ v v' r,f v=ao (.ref r)->f v'=ao (.ref r)->v=v'
theorem Hx.fresh(h:Hx B H):B[H.length]? =none:=by
 cases e:B[H.length]? with
 |none=>rfl
 |some m=>exact ca (h _ _ e) (by rw[aH];nofun)
theorem bB(h:H[i]? =ao m):H.length≠i:=λq=>by rw[<-q,aH]at h;cases h
def fB(s rb rd i elt ind:bn V):Nv:=[("self",s),("b",rb),("b2j",rd),("i",i),("elt",elt),("indices",ind)]
inductive CBI(B:MH)(s rb rd:Nat)(fs:Str->bn V)(b:aq Int)(p:Nat)(lo:Lo)(H:MH):Prop
 |mk {n:Nat}{f:Int->bn V}{o1 o2 o3:bn V} (el:lo=look (fB (ao (.ref s)) (ao (.ref rb)) (ao (.ref rd)) o1 o2 o3)) (hx:Hx B H) (ho:H[s]? =ao (.inst fs)) (hd:H[rd]? =ao (.dict n f)) (hn:n<=p) (bk:Bk B s rd b p f H):CBI B s rb rd fs b p lo H
theorem aAa{P:bn (V×(Nat×Nat))->MH->Prop}{p:Nat}(a:lst H (.ref r)=ao vs)(e:vs[p]? =o)(h:P (o.map λv=>(.tup [.int p,v],(r,p+1))) H):(nA C).nx (r,p) H P:=Lf.mk a (by exact rwL e h)
theorem qG(a:Nat->Lo->MH->Prop)(c:∀ {p lo H},a p lo H->lst H (.ref r)=ao vs)(e:∀ {lo H},a vs.length lo H->Q .next lo H)(hs:∀ {p v lo H K},vs[p]? =ao v->a p lo H->GoK (a (p+1)) Q K->tgt (.tup [.int p,v]) lo H λlo1 H1=>body lo1 H1 K):∀ (k p:Nat){lo:Lo}{H:MH},p+k=vs.length->a p lo H->cZ (nA C) tgt body (k+1) (r,p) lo H Q:=λn=>by
 induction n with
 |zero=>
  refine λp lo H b h=>(aAa (c h) (ft (se b.symm)) ?_)
  subst b
  exact e h
 |succ k d=>
  exact λp lo H b h=>(aAa (c h) (cg (A106 b)) (hs (cg (A106 b)) h (.loop λh'=>d (p+1) (A109 b) h')))
def chT:AF:=b3 2 (asC (aN "i") (asC (aN "elt") asN))
theorem Bk.old{rd:Nat}(h:Bk B s rd b p f H)(j:Hx H G)(e:f (av b p)=ao (.ref r))(hs:H[s]? =ao (.inst fs)):Bk B s rd b (p+1) f (G.set r (.list ((js b (av b p) p++[(p:Int)]).map V.int))):=by
 refine⟨λv=>?_,h.i⟩
 rw[js_c]
 by_cases q:av b p=v
 ·refine rwR q (rwL (cj rfl) ?_)
  rcases h.g (av b p) with ⟨a,_⟩ |⟨k,a,c,d⟩
  ·exact cyM (rwR e a)
  ·cases (e▸a)
   exact .inr ⟨r,e,aK (j _ _ c) _,d⟩
 ·rw[cc q,c6]
  rcases h.g v with c |⟨k,a,c,d⟩
  ·exact .inl c
  ·exact .inr ⟨k,a,aE (j _ _ c) λz=>q (h.i _ _ r (e) (z▸a)),d⟩
theorem Bk.new{rd:Nat}(h:Bk B s rd b p f H)(u:Hx B H)(e:f (av b p)=none)(hs:H[s]? =ao (.inst fs))(o:H[rd]? =ao (.dict n f))(m:MO):Bk B s rd b (p+1) (dput f (av b p) (.ref H.length)) (((H++[MO.list []]).set rd m).set H.length (.list [.int p])):=by
 refine⟨λv=>?_,λv t r a c=>?_⟩
 ·rw[js_c]
  delta dput
  by_cases q:v=av b p
  ·refine rwL q (rwL (cj rfl) (rwL (cj rfl) (.inr ⟨_,rfl,?_,u.fresh,(bB hs),(bB o)⟩)))
   rcases h.g (av b p) with ⟨_,d⟩ |⟨l,d,_⟩
   ·exact rwL d (aK (aE (aU _ _) (bB o).symm) _)
   ·cases (e▸d)
  ·rw[cc q,cc (λz=>q z.symm),c6]
   rcases h.g v with a |⟨l,d,a,c⟩
   ·exact .inl a
   ·exact .inr ⟨l,d,aE (aE (Hx.app _ _ _ _ a) c.2.2.symm) (bB a),c⟩
 ·unfold dput at a c
  have k:∀ v,f v≠ao (.ref H.length):=λv z=>by
   rcases h.g v with ⟨d,_⟩ |⟨l,d,a,_⟩
   ·exact cyM (rwR z d)
   ·rw[z]at d;cases d;exact bB a rfl
  by_cases q:v=av b p
  ·by_cases j:t=av b p
   ·exact q.trans j.symm
   ·rw[cj q]at a;rw[cc j]at c;cases a;exact ca c (k _)
  ·by_cases j:t=av b p
   ·rw[cc q]at a;rw[cj j]at c;cases c;exact ca a (k _)
   ·rw[cc q]at a;rw[cc j]at c;exact h.i _ _ _ a c
theorem c7{r:Nat}(h:H[r]? =ao (.list vs)):H[r]?.bind MO.own=ao vs:=by rw[h];rfl
theorem aG(h:H[r]? =ao (.list vs)):lst H (.ref r)=ao vs:=by
 show H[r]?.bind _=_
 rw[h];rfl
theorem aD3(c:lo x=ao (.ref r))(b:lo y=ao v)(h:H[r]? =ao (.list vs))(a:vs.length<1000000)(k:K .next lo (H.set r (.list (vs++[v])))):aX (cV (eN x) (eN y)) lo H K:=Lf.mk c (Lf.mk rfl ⟨⟨_,h⟩,Lf.mk b (Lf.mk (c7 h) ⟨a,k⟩)⟩)
theorem aFu(b:aq Int)(v:Int):∀ p,(js b v p).length<=p
 |0=>c5 _
 |p+1=>by
  rw[js_c,bx]
  refine Nat.add_le_add (aFu b v p) ?_
  split
  ·exact c5 1
  ·exact hN 1
def chR(w:V)(lo:Lo)(K:SK)(H:MH):Prop:=aB (aX (cV (eN "indices") (eN "i"))) (sK .next) (upd lo "indices" w) H K
theorem chR_i(b:upd lo "indices" (.ref r) "i" =ao v)(h:H[r]? =ao (.list vs))(a:vs.length<1000000)(k:K .next (upd lo "indices" (.ref r)) (H.set r (.list (vs++[v])))):chR (.ref r) lo K H:=aD3 (x:="indices") ⋯ b h a k
theorem ch_nf{rd p:Nat}{o2 o3:bn V}:(chT (.tup [.int p,.int v]) (look (fB (ao (.ref s)) (ao (.ref rb)) (ao (.ref rd)) o1 o2 o3)) H λlo1 H1=>chB lo1 H1 K)= (2=2/\(∃ n g,H[rd]? =ao (.dict n g))/\Lf ((H++[MO.list []])[rd]?.bind MO.dct) λq=>q.1<1000000/\match q.2 v with
   |some a=>chR a (upd (upd (look (fB (ao (.ref s)) (ao (.ref rb)) (ao (.ref rd)) o1 o2 o3)) "i" (.int p)) "elt" (.int v)) K (H++[MO.list []])
   |none=>chR (.ref H.length) (upd (upd (look (fB (ao (.ref s)) (ao (.ref rb)) (ao (.ref rd)) o1 o2 o3)) "i" (.int p)) "elt" (.int v)) K ((H++[MO.list []]).set rd (.dict (q.1+1) (dput q.2 v (.ref H.length))))):=by kernel_rfl
theorem upd3{rd:Nat}{o2 o3:bn V}(u v w:V):upd (upd (upd (look (fB (ao (.ref s)) (ao (.ref rb)) (ao (.ref rd)) o1 o2 o3)) "i" u) "elt" v) "indices" w=look (fB (ao (.ref s)) (ao (.ref rb)) (ao (.ref rd)) (ao u) (ao v) (ao w)):=by
 rw[aD,aD,aD];kernel_rfl
theorem aKo{rd:Nat}(k:p<1000000)(hs:B[s]? =none)(u:B[rd]? =none)(q:s≠rd)(I:CBI B s rb rd fs b p lo H)(G:GoK (CBI B s rb rd fs b (p+1)) Q K):chT (.tup [.int p,.int (av b p)]) lo H λlo1 H1=>chB lo1 H1 K:=by
 cases I with
 | @mk n f y o2 o3 m h d c j i=>
 subst m
 have a:Hx H (H++[MO.list []]):=.app _ _
 refine kch ch_nf ⟨rfl,⟨_,_,c⟩,Lf.mk (yV (a _ _ c)) ⟨ec j k,?_⟩⟩
 dsimp only
 rcases i.g (av b p) with ⟨e,x⟩ |⟨r,e,l,t,w,o⟩
 ·refine rwL e (chR_i ⋯ (aE (aU _ _) (bB c).symm) (by decide) (G.nx (.mk (upd3 _ _ _) (((h.trans a).set u).set h.fresh) ?_ ?_ (eH j) (i.new h e d c _))))
  ·exact aE (aE (a _ _ d) q.symm) (bB d)
  ·exact aE (aK (a _ _ c) _) (bB c)
 ·refine rwL e (chR_i (v:=.int p) ⋯ (a _ _ l) (by rw[bq];exact ec (aFu b (av b p) p) k) (rwL (show (js b (av b p) p).map V.int++[V.int p]=(js b (av b p) p++[(p:Int)]).map V.int from by rw[dv];rfl) (G.nx (.mk (upd3 _ _ _) ((h.trans a).set t) ?_ ?_ (lw j) (i.old a e d)))))
  ·exact aE (a _ _ d) w
  ·exact aE (a _ _ c) o
theorem fB_0{rd:Nat}:upd (upd (upd lo0 "self" (.ref s)) "b" (.ref rb)) "b2j" (.ref rd)=look (fB (ao (.ref s)) (ao (.ref rb)) (ao (.ref rd)) none none none):=by
 rw[<-fW (fB none none none none none none) ⋯,aD,aD,aD]
 kernel_rfl
def fs3(fs:Str->bn V)(rd rj rp:Nat):Str->bn V:=fput (fput (fput fs "b2j" (.ref rd)) "bjunk" (.ref rj)) "bpopular" (.ref rp)
theorem Bk.idx{rd:Nat}(h:Bk B s rd b b.length f H)(k:∀ (r:Nat) (m:MO),H[r]? =ao m->r≠s->H'[r]? =ao m):B2J H' b f:=λv=>by
 have e:Idx b v 0 (js b v b.length):=by
  have:=aFv (v:=v) (c5 b.length) (.nil λc a c=>ca c (lr.mpr a))
  rwa [c6]at this
 rcases h.g v with ⟨a,c⟩ |⟨r,a,c,j,d,i⟩
 ·exact .inl ⟨a,c▸e⟩
 ·exact .inr ⟨r,_,a,aG (k _ _ c d),e⟩
theorem Bk.nw{rd:Nat}(h:Bk B s rd b p f H)(v:Int)(r:Nat)(e:f v=ao (.ref r)):B[r]? =none:=by
 rcases h.g v with ⟨a,c⟩ |⟨i,a,c,d,k,j⟩
 ·exact aM (a.symm.trans e)
 ·cases a.symm.trans e;exact d
theorem aHj{rd:Nat}{o2 o3:bn V}(hs:B[s]? =none)(z:Hx B H)(h:H[s]? =ao (.inst fs))(A:H[rd]? =ao (.dict n f))(y:s≠rd)(q:LI B rb b)(u:b.length<1000000)(p:t=be->b.length<200)(w:fs "isjunk" =ao .none)(x:fs "autojunk" =ao (.bool t))(j:Bk B s rd b b.length f H)(k:∀ {H' g rp},Hx B H'->H'[s]? =ao (MO.inst (fput (fput fs "bjunk" (.ref g)) "bpopular" (.ref rp)))->H'[rd]? =ao (.dict n f)->H'[g]? =ao .eset->B2J H' b f->(∀ v r,f v=ao (.ref r)->B[r]? =none)->Q .none H'):aBp X (look (fB (ao (.ref s)) (ao (.ref rb)) (ao (.ref rd)) o1 o2 o3)) H (jJ Q):=by
 refine kch (B:=(St s "bjunk" (.ref H.length) (H++[MO.eset]) λH3=>At s "isjunk" H3 λv=>Lf (tr v H3) λb=>bif b then fm else St s "bpopular" (.ref H3.length) (H3++[MO.eset]) λH4=>
  Lp ((lst H4 (.ref rb)).bind λxs=>if xs.length<1000000 then ao (.int xs.length,H4) else none) λn d=>At s "autojunk" d λv=>Lf (tr v d) λb=>bif b then(Lp (oGe n (.int 200) d) λv l=>Lf (tr v l) λb=>bif b then fm else Q .none l) else Q .none d)) ⋯ ?_
 have i:=Hx.app H [MO.eset] _ _ h
 have s1:=aK i (MO.inst (fput fs "bjunk" (.ref H.length)))
 refine St.mk i (At.mk s1 w (Lf.mk rfl (bC (St.mk (Hx.app _ [MO.eset] _ _ s1) ?_))))
 have s2:=aK (Hx.app _ [MO.eset] _ _ s1) (MO.inst (fput (fput fs "bjunk" (.ref H.length)) "bpopular" (.ref ((H++[MO.eset]).set s (MO.inst (fput fs "bjunk" (.ref H.length)))).length)))
 have o:=((((z.trans (.app H [MO.eset])).set (m:=.inst (fput fs "bjunk" (.ref H.length))) hs).trans (.app _ [MO.eset])).set (m:=.inst (fput (fput fs "bjunk" (.ref H.length)) "bpopular" (.ref ((H++[MO.eset]).set s (MO.inst (fput fs "bjunk" (.ref H.length)))).length))) hs)
 have a:∀ (r:Nat) (m:MO),(H++[MO.eset])[r]? =ao m->r≠s->((((H++[MO.eset]).set s (MO.inst (fput fs "bjunk" (.ref H.length))))++[MO.eset]).set s (MO.inst (fput (fput fs "bjunk" (.ref H.length)) "bpopular" (.ref ((H++[MO.eset]).set s (MO.inst (fput fs "bjunk" (.ref H.length)))).length))))[r]? =ao m:=λr m e n=>
  aE (Hx.app _ _ _ _ (aE e n.symm)) n.symm
 have c:=k o s2 (a _ _ (Hx.app _ _ _ _ A) y.symm) (a _ _ (aU _ _) (bB h)) (j.idx λr m e n=>a _ _ (Hx.app _ _ _ _ e) n) j.nw
 refine Lp.mk (by rw[(o.li q)];show(if (b.map V.int).length<1000000 then _ else _)=_;rw[bq,cj u]) (At.mk s2 x (Lf.mk rfl ?_))
 cases t with
 |false=>exact c
 |true=>
  refine bH (Lp.mk (v:=.bool (decide ((b.length:Int)>=200))) ⋯ (Lf.mk ?_ (bC c)))
  rw[bw (zzM1 0x5a28a041a8f42106a3d07da00007 [b.length] ⋯ (p rfl))];rfl
theorem y4(h:H[s]? =ao (.inst fs))(a:Hx B H)(hs:B[s]? =none)(d:LI B rb b)(o:b.length<1000000)(z:t=be->b.length<200)(A:fs "b" =ao (.ref rb))(D:fs "isjunk" =ao .none)(E:fs "autojunk" =ao (.bool t))(k:∀ {H' rd l rp n f},Hx B H'->H'[s]? =ao (MO.inst (fs3 fs rd l rp))->H'[rd]? =ao (.dict n f)->H'[l]? =ao .eset->B2J H' b f->(∀ v r,f v=ao (.ref r)->B[r]? =none)->Q .none H'):fX X [.ref s] H Q:=by
 refine kch (B:=(1=1/\At s "b" H λv=>St s "b2j" (.ref H.length) (H++[.dict 0 λN=>none]) λH2=>Lf v.rf λi=>(∃ vs,lst H2 (.ref i)=ao vs)/\
  ∃ n,cZ (nA C) chT chB n (i,0) (upd (upd (upd lo0 "self" (.ref s)) "b" v) "b2j" (.ref H.length)) H2 (bM (aBp X) (jJ Q)))) ⋯ ?_
 have g:=Hx.app H [.dict 0 λN=>none]
 refine⟨rfl,At.mk h A (St.mk (g _ _ h) (Lf.mk rfl ?_))⟩
 have w:=(a.trans g).set (m:=.inst (fput fs "b2j" (.ref H.length))) hs
 have j:=(bB h).symm
 refine⟨⟨_,w.li d⟩,(b.map V.int).length+1,rwL fB_0 (qG (CBI B s rb H.length (fput fs "b2j" (.ref H.length)) b) (λI=>?_) (λI=>?_) (λ{p v lo H K} e I G=>?_) _ 0 (Nat.zero_add _) (.mk rfl w (aK (g _ _ h) (MO.inst (fput fs "b2j" (.ref H.length)))) (aE (aU _ _) j) (c5 _) ⟨λv=>.inl ⟨rfl,rfl⟩,λv M r c y=>nomatch c⟩))⟩
 ·cases I with
  |mk q a=>exact a.li d
 ·cases I with
  |mk q a F J L u=>
   subst q
   rw[bq]at u
   exact aHj X hs a F J j d o z D E u k
 ·refine xEA (dr.mp (rwR ma e)) λx c y=>?_
  refine rwR y ?_
  have:av b p=x:=by
   show b.getD p 0=x
   rw[c4,c];rfl
  exact rwR this (aKo (kq (List.getElem?_eq_some_iff.mp c).1 o) hs a.fresh j I G)
structure Bx(a b:aq Int)(t:T3):Prop where
 p:0<t.k
 n:In a b ⟨0,a.length,0,b.length⟩ t.i t.j t.k
def T3.w(t:T3):Wd:=⟨t.i,t.i+t.k,t.j,t.j+t.k⟩
def Sep(x y:Wd):Prop:=(x.ah<=y.al/\x.bh<=y.bl)\/(y.ah<=x.al/\y.bh<=x.bl)
structure Sb(x y:Wd):Prop where
 a0:y.al<=x.al
 a1:x.ah<=y.ah
 b0:y.bl<=x.bl
 b1:x.bh<=y.bh
theorem Sep.symm(h:Sep x y):Sep y x:=Or.symm h
theorem Sep.sub(h:Sep y z)(s:Sb x y):Sep x z:=h.imp (λh=>⟨dt s.a1 h.1,dt s.b1 h.2⟩) λh=>⟨dt h.1 s.a0,dt h.2 s.b0⟩
theorem gV(i:Int)(h:0<=k):i<=i+k:=Int.le_add_of_nonneg_right h
theorem sb1(B:In a b w i j k):Sb ⟨w.al,i,w.bl,j⟩ w:=⟨Int.le_refl _,dt (gV i B.k0) B.i1,Int.le_refl _,dt (gV j B.k0) B.j1⟩
theorem sb2(B:In a b w i j k):Sb ⟨i+k,w.ah,j+k,w.bh⟩ w:=⟨dt B.i0 (gV i B.k0),Int.le_refl _,dt B.j0 (gV j B.k0),Int.le_refl _⟩
theorem sb3(B:In a b w i j k):Sb (T3.w ⟨i,j,k⟩) w:=⟨B.i0,B.i1,B.j0,B.j1⟩
theorem mem2(h:v∈k8 w i j k q):v=⟨i+k,w.ah,j+k,w.bh⟩\/v∈q:=by
 unfold k8 at h
 split at h
 ·exact du.mp h
 ·exact .inr h
theorem pw2(h:q.Pairwise Sep)(c:∀ v∈q,Sep ⟨i+k,w.ah,j+k,w.bh⟩ v):(k8 w i j k q).Pairwise Sep:=by
 delta k8
 split
 ·exact c3.mpr ⟨c,h⟩
 ·exact h
def SepT(x y:T3):Prop:=Sep x.w y.w
theorem Run.ok(h:Run a b q m r)(g:∀ w∈q,WOk a b w)(u:∀ t∈m,Bx a b t)(d:q.Pairwise Sep)(l:m.Pairwise SepT)(cr:∀ w∈q,∀ t∈m,Sep w t.w):(∀ t∈r,Bx a b t)/\r.Pairwise SepT:=by
 induction h with
 |nil=>exact⟨u,l⟩
 |zero B h o=>
  exact o (λv c=>g v (.tail _ c)) u (c3.mp d).2 l λv c=>cr v (.tail _ c)
 | @pos w q m r i j k B p h o=>
  have W:=g w (.head _)
  have n:=B.n
  refine xA (c3.mp d) λpw d=>?_
  have cl:∀ v∈jD w i j q,v=⟨w.al,i,w.bl,j⟩\/v∈q:=λv c=>(by
   unfold jD at c
   split at c
   ·exact du.mp c
   ·exact .inr c)
  have s:∀ v∈k8 w i j k (jD w i j q),Sep v (T3.w ⟨i,j,k⟩):=λv c=>by
   refine Or.elim (mem2 c) (λe=>(e▸ .inr ⟨Int.le_refl _,Int.le_refl _⟩)) λe=>?_
   ·refine Or.elim (cl v e) (λe=>(e▸ .inl ⟨Int.le_refl _,Int.le_refl _⟩)) λe=>?_
    ·exact((pw v e).sub (sb3 n)).symm
  refine o (zP W B λv c=>g v (.tail _ c)) (λt f=>?_) (pw2 ((by
   delta jD
   split
   ·exact c3.mpr ⟨(λv c=>(pw v c).sub (sb1 n)),d⟩
   ·exact d)) λv c=>?_) (List.pairwise_append.mpr ⟨l,List.pairwise_singleton _ _,λx C y A=>?_⟩) λv c t f=>?_
  ·refine Or.elim (gb.mp f) (λe=>(u t e)) λe=>?_
   ·cases dc.mp e
    exact⟨p,dt W.a0 n.i0,dt n.i1 W.a2,dt W.b0 n.j0,dt n.j1 W.b2,n.k0,n.m⟩
  ·refine Or.elim (cl v c) (λe=>(e▸ .inr ⟨gV i n.k0,gV j n.k0⟩)) λe=>?_
   ·exact(pw v e).sub (sb2 n)
  ·cases dc.mp A
   exact((cr w (.head _) x C).sub (sb3 n)).symm
  ·refine Or.elim (gb.mp f) (λe=>?_) λe=>?_
   ·refine Or.elim (mem2 c) (λz=>(z▸(cr w (.head _) t e).sub (sb2 n))) λz=>?_
    ·refine Or.elim (cl v z) (λz=>(z▸(cr w (.head _) t e).sub (sb1 n))) λz=>?_
     ·exact cr v (.tail _ z) t e
   ·cases dc.mp e
    exact s v c
class inductive CH(a b:aq Int):Int->Int->aq T3->Prop
 |nil {i j:Int}:CH a b i j []
 |cons {i j:Int}{t:T3}{l:aq T3} (hi:i<=t.i) (hj:j<=t.j) (B:Bx a b t) (h:CH a b (t.i+t.k) (t.j+t.k) l):CH a b i j (t::l)
theorem CH.of:∀ {l:aq T3}{i j:Int},(∀ t∈l,Bx a b t)->l.Pairwise SepT->l.Pairwise (λx y=>x.i<y.i)->(∀ t∈l,i<=t.i/\j<=t.j)->CH a b i j l:=λ{n}=>by
 induction n with
 |nil=>
  intro _ _ _ _ _ _
  exact .nil
 |cons t l g=>
  intro i j d h f e
  refine xA (c3.mp h) λs1 s2=>xA (c3.mp f) λl1 k=>.cons (e t (.head _)).1 (e t (.head _)).2 (d t (.head _)) (g (λx c=>d x (.tail _ c)) s2 k λx c=>(Or.elim (s1 x c) (λs=>s) λs=>?_))
  ·exact ca (Int.lt_of_lt_of_le (l1 x c) (dt (ip (Int.lt_add_of_pos_right x.i ((d x (.tail _ c)).p))) s.1)) (jm _)
theorem CH.len(h:CH a b i j l)(c:i<=a.length):i+l.length<=a.length:=by
 induction h with
 |nil=>simpa using c
 | @cons i j t l e f B h d=>
  exact rwL e6 (A201 e (d B.n.i1) B.p)
theorem oJ:∀ (l:aq T3) (c:T3),(nad c l).length<=l.length+1
 | [],c=>by
  rw[aAe];split
  ·exact hN 1
  ·exact c5 1
 |x::l,c=>by
  rw[aAf];split
  ·exact lw (oJ l _)
  ·rw[bx,e6,vc]
   refine Nat.add_le_add (oJ l x) ?_
   split
   ·exact hN 1
   ·exact c5 1
theorem Run.sorted(h:Run a b [⟨0,a.length,0,b.length⟩] [] r):r.Pairwise (λx y=>x.i≠y.i)/\CH a b 0 0 (isort T3.i r):=by
 refine xA (h.ok (λw l=>by
    cases dc.mp l
    exact⟨Int.le_refl _,eO _,Int.le_refl _,Int.le_refl _,eO _,Int.le_refl _⟩) (λq h=>ca h cx) (List.pairwise_singleton _ _) .nil λq q q h=>ca h cx) (λh1 g=>?_)
 have f:r.Pairwise (λx y=>x.i≠y.i):=g.imp_of_mem λ{x y} j k s e=>by
  have m:=(h1 y k).p
  refine Or.elim s (λs=>(ca (Int.lt_of_lt_of_le (Int.lt_add_of_pos_right x.i ((h1 x j).p)) s.1) (e▸jm _))) λs=>?_
  ·exact ca (Int.lt_of_lt_of_le (Int.lt_add_of_pos_right y.i m) s.1) (e▸jm _)
 have d:=λt c=>h1 t ((b5 T3.i r).mem_iff.mp c)
 exact⟨f,.of d (((b5 T3.i r).pairwise_iff λ{x y} (s:SepT x y)=>s.symm).mpr g) (qC f) λt c=>⟨(d t c).n.i0,(d t c).n.j0⟩⟩
theorem Run.len(h:Run a b [⟨0,a.length,0,b.length⟩] [] r):r.length<=a.length:=by
 exact A202 (rwR ((b5 T3.i r).length_eq) (h.sorted.2.len (eO _)))
set_option genCtorIdx true in
inductive Tg where |rep |del |ins |eq
structure Op where
 tag:Tg
 i1:Int
 i2:Int
 j1:Int
 j2:Int
def gap(i j i' j':Int):aq Op:=if i<i' then if j<j' then [⟨.rep,i,i',j,j'⟩] else [⟨.del,i,i',j,j'⟩] else if j<j' then [⟨.ins,i,i',j,j'⟩] else []
def ops(i j:Int):aq T3->aq Op
 | []=>[]
 |t::l=>gap i j t.i t.j++((if t.k=0 then [] else [Op.mk .eq t.i (t.i+t.k) t.j (t.j+t.k)])++ops (t.i+t.k) (t.j+t.k) l)
theorem aEj(i j:Int)(t:T3)(l:aq T3):ops i j (t::l)=gap i j t.i t.j++((if t.k=0 then [] else [Op.mk .eq t.i (t.i+t.k) t.j (t.j+t.k)])++ops (t.i+t.k) (t.j+t.k) l):=rfl
class inductive NA(a b:aq Int):cw->Int->Int->aq T3->Prop
 |nil {f:cw}{i j:Int}:NA a b f i j []
 |cons {f:cw}{i j:Int}{t:T3}{l:aq T3} (hi:i<=t.i) (hj:j<=t.j) (st:f=be->i<t.i\/j<t.j) (B:Bx a b t) (h:NA a b be (t.i+t.k) (t.j+t.k) l):NA a b f i j (t::l)
theorem Bx.nz(B:Bx a b c):c.k≠0:=λz=>ca B.p (z▸jm _)
theorem Bx.join(B:Bx a b c)(X:Bx a b x)(d:c.i+c.k=x.i)(e:c.j+c.k=x.j):Bx a b ⟨c.i,c.j,c.k+x.k⟩:=by
 have n:=X.n
 refine⟨Int.add_pos_of_pos_of_nonneg B.p n.k0,B.n.i0,?_,B.n.j0,?_,px B.n.k0 n.k0,λt f g=>?_⟩
 ·rw[<-kz,d];exact n.i1
 ·rw[<-kz,e];exact n.j1
 ·by_cases q:t<c.k
  ·exact B.n.m t f q
  ·have:=n.m (t-c.k) (gx (lr.mp q)) (Int.sub_left_lt_of_lt_add g)
   rw[<-d,<-e,kz,kz,show c.k+(t-c.k)=t from (zzI0 0x169a29068003 [c.k,t] ⋯)]at this
   exact this
theorem lX:∀ {l:aq T3}{c:T3}{f:cw}{i j:Int},CH a b (c.i+c.k) (c.j+c.k) l->Bx a b c->i<=c.i->j<=c.j->(f=be->i<c.i\/j<c.j)->NA a b f i j (nad c l):=λ{n}=>by
 induction n with
 |nil=>
  intro c f i j _ B d e st
  rw[aAe,cc B.nz]
  exact .cons d e st B .nil
 |cons x l m=>
  intro c f i j h B d e st
  cases h with
  |cons o p X h=>
  rw[aAf]
  by_cases q:c.i+c.k=x.i/\c.j+c.k=x.j
  ·rw[cj q]
   refine m ?_ (B.join X q.1 q.2) d e st
   rw[<-kz,<-kz,q.1,q.2];exact h
  ·rw[cc q,cc B.nz]
   refine .cons d e st B (m h X o p λr=>?_)
   by_cases g:c.i+c.k=x.i
   ·exact .inr (Int.lt_iff_le_and_ne.mpr ⟨p,λz=>q ⟨g,z⟩⟩)
   ·exact .inl (Int.lt_iff_le_and_ne.mpr ⟨o,g⟩)
class inductive Cod(a b:aq Int):bn cw->Int->Int->aq Op->Prop
 |nil {f:bn cw}:Cod a b f a.length b.length []
 |eq {f:bn cw}{i j k:Int}{l:aq Op} (hf:f≠ao be) (p:0<k) (m:Mt a b i j k) (h:Cod a b (ao be) (i+k) (j+k) l):Cod a b f i j (⟨.eq,i,i+k,j,j+k⟩::l)
 |ch {f:bn cw}{i j i' j':Int}{g:Tg}{l:aq Op} (hf:f≠ao aL) (hg:g≠ .eq) (hi:i<=i') (hj:j<=j') (lt:i<i'\/j<j') (h:Cod a b (ao aL) i' j' l):Cod a b f i j (⟨g,i,i',j,j'⟩::l)
theorem Cod.gap(n:f≠ao aL)(g:i<=e)(k:j<=c)(o:i=e->j=c->Cod a b f i j l)(m:Cod a b (ao aL) e c l):Cod a b f i j (Mine.Internal.gap i j e c++l):=by
 unfold Mine.Internal.gap
 by_cases d:i<e
 ·rw[cj d]
  split
  ·exact .ch n nofun g k (.inl d) m
  ·exact .ch n nofun g k (.inl d) m
 ·rw[cc d]
  by_cases h:j<c
  ·exact rwL (cj h) (.ch n nofun g k (.inr h) m)
  ·exact rwL (cc h) (o (Int.le_antisymm g (lr.mp d)) (Int.le_antisymm k (lr.mp h)))
def fl(f:cw):bn cw:=if f=be then ao be else none
theorem NA.cod(h:NA a b f i j l)(g:i<=a.length)(r:j<=b.length):Cod a b (fl f) i j (ops i j (l++[⟨a.length,b.length,0⟩])):=by
 have d:∀ f,fl f≠ao aL:=λf=>by cases f<;>nofun
 induction h with
 | @nil f i j=>
  exact Cod.gap (d f) g r (λe1 c=>(rwL e1 (rwL c .nil))) .nil
 | @cons f i j t l k o st B h e=>
  rw[tD,aEj,cc B.nz]
  refine Cod.gap (d f) k o (λe1 c=>?_) (.eq nofun B.p B.n.m (e B.n.i1 B.n.j1))
  subst e1 c
  refine .eq (λz=>?_) B.p B.n.m (e B.n.i1 B.n.j1)
  cases f with
  |false=>cases z
  |true=>rcases st rfl with q |q<;>exact jm _ q
def fs0:Str->bn V:=fput (fput (fput (fput (λq=>none) "isjunk" .none) "a" .none) "b" .none) "autojunk" (.bool be)
def fsN(ra rb rd rj rp:Nat):Str->bn V:=fs3 (fs2 (fs1 fs0 ra) rb) rd rj rp
theorem aIp(h:H[s]? =ao (.inst fs))(c:fs "a" =ao .none)(d:fs "b" =ao .none)(k:fX X [.ref s] (H.set s (.inst (fs2 (fs1 fs ra) rb))) λq H'=>Q .none H'):iO X [.ref s,.ref ra,.ref rb] H Q:=by
 refine kch (B:=(3=3/\(∃ a,H[s]? =ao (.inst a))/\iQ X [.ref s,.ref ra] H λq H2=>(∃ a,H2[s]? =ao (.inst a))/\iP X [.ref s,.ref rb] H2 λq H3=>Q .none H3)) ⋯ ⟨rfl,⟨_,h⟩,vK X h c ⟨⟨_,aK h _⟩,(by
  intro X H s rb fs Q h c k
  refine kch (B:=(2=2/\At s "b" H λv=>Lp (oIs id (.ref rb) v H) λv H1=>Lf (tr v H1) λb=>bif b then Q .none H1 else St s "b" (.ref rb) H1 λH2=>St s "matching_blocks" .none H2 λH3=>St s "opcodes" .none H3 λH4=>St s "fullbcount" .none H4 λH5=>(∃ a,H5[s]? =ao (.inst a))/\fX X [.ref s] H5 λq H'=>Q .none H')) ⋯
   ⟨rfl,At.mk h c (Lp.mk rfl (Lf.mk rfl (bC (St.mk h (St.mk (aK h _) (St.mk (aK (aK h _) _) (St.mk (aK (aK (aK h _) _) _) ?_)))))))⟩
  rw[qw,qw,qw];exact⟨⟨_,aK h _⟩,k⟩:∀(X:XX C){H:MH}{s rb:Nat}{fs:Str->bn V}{Q:EK}(h:H[s]? =ao (.inst fs))(c:fs "b" =ao .none)(k:fX X [.ref s] (H.set s (.inst (fs2 fs rb))) λq H'=>Q .none H'),iP X [.ref s,.ref rb] H Q) X (aK h _) d ?_⟩⟩
 rw[qw];exact k
theorem aJ1:y6 X [.ref s,.none,.ref ra,.ref rb] H Q=(5=5/\St s "isjunk" .none H λH1=>St s "a" .none H1 λH2=>St s "b" .none H2 λH3=>St s "autojunk" (.bool be) H3 λH4=>(∃ a,H4[s]? =ao (.inst a))/\iO X [.ref s,.ref ra,.ref rb] H4 λq H'=>Q .none H'):=by kernel_rfl
theorem aHy(r:LI H ra a)(i:LI H rb b)(al:a.length<200)(d:b.length<200)(k:∀ {H' rd c rp n f},Hx H H'->SM H' H.length ra rb rd c n (fsN ra rb rd c rp) f a b->Q (.ref H.length) H'):X.c_SM [.none,.ref ra,.ref rb] H Q:=by
 have h:=aU H (.inst λu=>none)
 have j:=aK h (.inst (fput (λu=>none) "isjunk" .none))
 have l:=aK j (.inst (fput (fput (λu=>none) "isjunk" .none) "a" .none))
 have m:=aK l (.inst (fput (fput (fput (λu=>none) "isjunk" .none) "a" .none) "b" .none))
 have g:=aK m (.inst fs0)
 refine kch (aJ1 X) ⟨rfl,St.mk h (St.mk j (St.mk l (St.mk m ⟨⟨_,g⟩,aIp X g ⋯ ⋯ (y4 X (t:=be) (aK g (.inst (fs2 (fs1 fs0 ra) rb))) ((((((Hx.app H [.inst λu=>none]).set (aH H)).set (aH H)).set (aH H)).set (aH H)).set (aH H)) (aH H) i (kq d (by decide)) (λu=>d) ⋯ ⋯ ⋯ λ{H' rd c rp n f} e s o q p u=>⟨rfl,k e ⟨s,by kernel_rfl,by kernel_rfl,by kernel_rfl,by kernel_rfl,e.li r,e.li i,o,q,p,kq al (by decide),kq d (by decide)⟩⟩)⟩)))⟩
def Wd.v(w:Wd):V:=.tup [.int w.al,.int w.ah,.int w.bl,.int w.bh]
def T3.v(t:T3):V:=.mat t.i t.j t.k
def T3.t(t:T3):V:=.tup [.int t.i,.int t.j,.int t.k]
structure GC where
 s:Nat
 la:Int
 lb:Int
 q:Nat
 m:Nat
def fG(s la lb q m al ah bl bh i j k x:bn V):Nv:=[("self",s),("la",la),("lb",lb),("queue",q),("matching_blocks",m),("alo",al),("ahi",ah),("blo",bl),("bhi",bh),("i",i),("j",j),("k",k),("x",x),("i1",none),("j1",none),("k1",none),("non_adjacent",none),("i2",none),("j2",none),("k2",none)]
def gL(c:GC)(al ah bl bh i j k x:bn V):Lo:=look (fG (ao (.ref c.s)) (ao (.int c.la)) (ao (.int c.lb)) (ao (.ref c.q)) (ao (.ref c.m)) al ah bl bh i j k x)
def gL'(c:GC)(w:Wd)(i j k x:bn V):Lo:=gL c (ao (.int w.al)) (ao (.int w.ah)) (ao (.int w.bl)) (ao (.int w.bh)) i j k x
theorem pop_i(b:lo x=ao (.ref r))(h:H[r]? =ao (.list (vs++[v])))(a:vs.length<999999)(k:Q v (H.set r (.list vs))):ePop (eN x) lo H Q:=by
 have e:(vs++[v]).length=vs.length+1:=by rw[bx];rfl
 refine Lf.mk b (Lf.mk rfl (Lf.mk (c7 h) ⟨by rw[e];exact Nat.succ_lt_succ a,Lf.mk (p:=v) ?_ ?_⟩))
 ·rw[e,Nat.add_sub_cancel,gO (c5 _),ox];rfl
 ·rw[e,Nat.add_sub_cancel,List.eraseIdx_append_of_length_le (c5 _),ox]
  show Q v (H.set r (.list (vs++[])))
  rw[c6];exact k
theorem jK(b:lo x=ao (.ref r))(c:∀ (H:MH) (Q:EK),Q v H->g lo H Q)(h:H[r]? =ao (.list vs))(a:vs.length<1000000)(k:K .next lo (H.set r (.list (vs++[v])))):aX (cV (eN x) g) lo H K:=Lf.mk b (Lf.mk rfl ⟨⟨_,h⟩,c _ _ (Lf.mk (c7 h) ⟨a,k⟩)⟩)
inductive QI(a b:aq Int)(c:GC)(G:MH)(n:Nat)(lo:Lo)(H:MH):Prop
 |mk {q:aq Wd}{m:aq T3}{al ah bl bh i j k x:bn V} (el:lo=gL c al ah bl bh i j k x) (hx:Hx G H) (hq:H[c.q]? =ao (.list (q.reverse.map Wd.v))) (hm:H[c.m]? =ao (.list (m.map T3.v)))
   (w:∀ v∈q,WOk a b v) (r:∀ r,Run a b q m r->Run a b [⟨0,c.la,0,c.lb⟩] [] r) (n1:mu q<=n) (n2:m.length+mu q<=1000):QI a b c G n lo H
theorem gF_nf{X:XX C}:gF X (gL' c w i j k x) H K=((∃ ff,H[c.s]? =ao (.inst ff))/\bW X [.ref c.s,.int w.al,.int w.ah,.int w.bl,.int w.bh] H λv H2=> iY (b3 3 (asC (aN "i") (asC (aN "j") (asC (aN "k") asN)))) (aN "x") v (gL' c w i j k x) H2 λlo' H3=>gI X lo' H3 K):=by kernel_rfl
theorem gF_set{X:XX C}{t:T3}(q:gI X (gL' c w (ao (.int t.i)) (ao (.int t.j)) (ao (.int t.k)) (ao t.v)) H K):iY (b3 3 (asC (aN "i") (asC (aN "j") (asC (aN "k") asN)))) (aN "x") t.v (gL' c w i j k x) H λlo' a=>gI X lo' a K:=by
 refine kch (B:=(3=3/\gI X (upd (upd (upd (upd (gL' c w i j k x) "i" (.int t.i)) "j" (.int t.j)) "k" (.int t.k)) "x" t.v) H K)) ⋯ ⟨rfl,?_⟩
 unfold gL' gL
 rw[aD,aD,aD,aD]
 exact q
def gT(c:GC)(w:Wd)(t:T3):Lo:=gL' c w (ao (.int t.i)) (ao (.int t.j)) (ao (.int t.k)) (ao t.v)
theorem gI_nf{X:XX C}:gI X (gT c w t) H K=(bif t.k != 0 then gA (gT c w t) H K else K .next (gT c w t) H):=by kernel_rfl
theorem gP1_i(h:H[c.q]? =ao (.list vs))(a:vs.length<1000000)(k:K .next (gT c w t) (H.set c.q (.list (vs++[Wd.v ⟨w.al,t.i,w.bl,t.j⟩])))):gP1 (gT c w t) H K:=by
 delta gP1
 exact aJ (jK ⋯ (λH Q q=>kch (B:=(4<100/\Q (Wd.v ⟨w.al,t.i,w.bl,t.j⟩) H)) ⋯ ⟨by decide,q⟩) h a k)
def Ex(H H':MH)(i:Nat):Prop:=∀ (j:Nat) (m:MO),i≠j->H[j]? =ao m->H'[j]? =ao m
theorem Ex.set:Ex H (H.set i m) i:=λj x n e=>aE e n
theorem Ex.trans{H1 a:MH}(h:Ex H H1 i)(h':Ex H1 a i):Ex H a i:=λj m n e=>h' j m n (h j m n e)
theorem Ex.hx(h:Ex H H' i)(x:Hx G H)(a:G[i]? =none):Hx G H':=λj m e=>h j m (λz=>by rw[z,e]at a;exact cyM a) (x j m e)
theorem pL(q:aq Wd)(w:Wd):(w::q).reverse.map Wd.v=q.reverse.map Wd.v++[w.v]:=by rw[List.reverse_cons,dv];rfl
theorem qlen{q:aq Wd}(h:q.length<n):(q.reverse.map Wd.v).length<n:=by rw[bq,List.length_reverse];exact h
theorem gJ_i(h:H[c.q]? =ao (.list (q.reverse.map Wd.v)))(b:q.length<1000000)(k:∀ {H'},H'[c.q]? =ao (.list ((k8 w t.i t.j t.k q).reverse.map Wd.v))->Ex H H' c.q->K .next (gT c w t) H'):gJ (gT c w t) H K:=by
 unfold k8 at k
 refine kch (by kernel_rfl:gJ (gT c w t) H K=(bif decide (t.i+t.k<w.ah) then bif decide (t.j+t.k<w.bh) then gP2 (gT c w t) H K else K .next (gT c w t) H else K .next (gT c w t) H)) ?_
 by_cases a:t.i+t.k<w.ah
 ·by_cases d:t.j+t.k<w.bh
  ·rw[cj ⟨a,d⟩,pL]at k
   rw[bp a,bp d]
   exact (by
    intro vs h b k
    delta gP2
    exact aJ (jK ⋯ (λH Q q=>kch (B:=(4<100/\Q (Wd.v ⟨t.i+t.k,w.ah,t.j+t.k,w.bh⟩) H)) ⋯ ⟨by decide,q⟩) h b k):∀{vs:aq V}(h:H[c.q]? =ao (.list vs))(b:vs.length<1000000)(k:K .next (gT c w t) (H.set c.q (.list (vs++[Wd.v ⟨t.i+t.k,w.ah,t.j+t.k,w.bh⟩])))),gP2 (gT c w t) H K) h (qlen b) (k (aK h _) .set)
  ·rw[cc λz=>d z.2]at k
   rw[bp a,bw d]
   exact k h λf f f e=>e
 ·rw[cc λz=>a z.1]at k
  exact rwL (bw a) (k h λf f f e=>e)
theorem gH_i(h:H[c.q]? =ao (.list (q.reverse.map Wd.v)))(b:q.length<999999)(k:∀ {H'},H'[c.q]? =ao (.list ((k8 w t.i t.j t.k (jD w t.i t.j q)).reverse.map Wd.v))->Ex H H' c.q->K .next (gT c w t) H'):gH (gT c w t) H K:=by
 unfold jD at k
 refine kch (by kernel_rfl:gH (gT c w t) H K=(bif decide (w.al<t.i) then bif decide (w.bl<t.j) then gP1 (gT c w t) H (bM gJ K) else gJ (gT c w t) H K else gJ (gT c w t) H K)) ?_
 by_cases a:w.al<t.i
 ·by_cases d:w.bl<t.j
  ·rw[cj ⟨a,d⟩]at k
   rw[bp a,bp d]
   exact gP1_i h (qlen (kq b (by decide))) (gJ_i (q:=⟨w.al,t.i,w.bl,t.j⟩::q) (by rw[pL];exact aK h _) (Nat.succ_lt_succ b) λh1 e=>k h1 (Ex.set.trans e))
  ·rw[cc λz=>d z.2]at k
   rw[bp a,bw d]
   exact gJ_i h (kq b (by decide)) k
 ·rw[cc λz=>a z.1]at k
  exact rwL (bw a) (gJ_i h (kq b (by decide)) k)
theorem sT(h:H[r]? =ao (.list vs))(a:vs.length<1000000):tr (.ref r) H=ao (!vs.isEmpty):=by
 show(lst H (.ref r)).bind _=_
 exact rwL (aG h) (cj a)
theorem q_step{rd:Nat}(S:SM G c.s ra rb rd rj n fs f a b)(R:G[c.q]? =none)(gm:G[c.m]? =none)(E:c.q≠c.m)(I:QI a b c G N lo H)(hQ:∀ {lo H},QI a b c G 0 lo H->Q .next lo H):tE (eN "queue") lo H λt H1=>bif t then ∀ K,GoK (λlo' H'=>∃ T,T<N/\QI a b c G T lo' H') Q K->gB X lo H1 K else Q .next lo H1:=by
 cases I with
 | @mk q m al z A D i j k x el hx y hm w r P g=>
 subst el
 have Z:=yG q
 refine aR ⋯ (Lf.mk (sT y (qlen (A184 g Z))) ?_)
 cases q with
 |nil=>exact hQ (.mk rfl hx y hm w r (c5 _) g)
 |cons Y q=>
  rw[pL]at y ⊢
  rw[show (!(q.reverse.map Wd.v++[Y.v]).isEmpty)=be by simp]
  intro K go
  have l:=Nat.lt_of_succ_lt_succ (A184 g Z)
  refine (by
   intro X c w vs al z A D i j k x h U q
   refine aJ (jI (pop_i ⋯ h U (kch (B:=(4=4/\gF X (upd (upd (upd (upd (gL c al z A D i j k x) "alo" (.int w.al)) "ahi" (.int w.ah)) "blo" (.int w.bl)) "bhi" (.int w.bh)) (H.set c.q (.list vs)) K)) ⋯ ⟨rfl,?_⟩)))
   delta gL
   rw[aD,aD,aD,aD]
   exact q:∀{X:XX C}{c:GC}{w:Wd}{vs:aq V}{al z A D i j k x:bn V}(h:H[c.q]? =ao (.list (vs++[w.v])))(U:vs.length<999999)(q:gF X (gL' c w i j k x) (H.set c.q (.list vs)) K),gB X (gL c al z A D i j k x) H K) y (qlen l) (kch gF_nf ?_)
  have M:Hx G (H.set c.q (.list (q.reverse.map Wd.v))):=hx.set R
  have p:=w Y (.head _)
  refine⟨⟨_,(S.hx M).o⟩,flm_ok X (S.hx M) p λ{i j k H2} J B=>gF_set (t:=⟨i,j,k⟩) ?_⟩
  have u:=J _ _ (aK y (.list (q.reverse.map Wd.v)))
  have d:=J _ _ (aE (m':=.list (q.reverse.map Wd.v)) hm E)
  have W:=M.trans J
  refine kch gI_nf ?_
  by_cases O:k=0
  ·subst O
   refine go.nx ⟨mu q,A185 P (mx _ _) rfl,.mk rfl W u d (λv F=>w v (.tail _ F)) (λr' h=>r r' (.zero B h)) (c5 _) ?_⟩
   ·exact A186 g rfl
  ·have L:=by exact A187 O B.n.k0
   refine rwL (show (k != 0)=be from uu.mpr O) (bH (aJ (aD3 (v:=T3.v ⟨i,j,k⟩) ⋯ ⋯ d (by rw[bq];exact zzM1 0x57b0ca0f41f680007e8f69a00007 [m.length,mu (Y :: q)] ⋯ g) (gH_i (aE u E.symm) l λ{H'} h1 e=>go.nx ⟨_,h8 (mu_sub B L q) P,.mk rfl (e.hx (W.set gm) R) h1 (rwL dv (e _ _ E (aK d _))) (zP p B λv F=>w v (.tail _ F)) (λr' h=>r r' (.pos B L h)) (c5 _) ?_⟩))))
   ·exact rwL bx (rwL e8 (A189 g (mu_sub B L q)))
def nL(c:GC)(o1 o2 o3 o4 o5 o6 o7 o8:bn V)(t:T3)(na:Nat)(u1 u2 u3:bn V):Lo:=look [("self",ao (.ref c.s)),("la",ao (.int c.la)),("lb",ao (.int c.lb)),("queue",ao (.ref c.q)),("matching_blocks",ao (.ref c.m)),("alo",o1),("ahi",o2),("blo",o3),("bhi",o4),("i",o5),("j",o6),("k",o7),("x",o8),
  ("i1",ao (.int t.i)),("j1",ao (.int t.j)),("k1",ao (.int t.k)),("non_adjacent",ao (.ref na)),("i2",u1),("j2",u2),("k2",u3)]
def nT:AF:=b3 3 (asC (aN "i2") (asC (aN "j2") (asC (aN "k2") asN)))
def nE:SF:=aB (sIf (tE (eN "k1")) nP (sK .next)) nS
def nB:SF:=aB (sIf (aW (tE (aA (bN id) (aA aP (eN "i1") (eN "k1")) (eN "i2"))) (aW (tE (aA (bN id) (aA aP (eN "j1") (eN "k1")) (eN "j2"))) (tK be))) (aB (sY "k1" s9 (eN "k2")) (sK .next)) nE) (sK .next)
def nX(c:GC)(o1 o2 o3 o4 o5 o6 o7 o8:bn V)(t:T3)(na:Nat)(x:T3):Lo:=nL c o1 o2 o3 o4 o5 o6 o7 o8 t na (ao (.int x.i)) (ao (.int x.j)) (ao (.int x.k))
theorem nP_i{o2 o3:bn V}(h:H[na]? =ao (.list vs))(a:vs.length<1000000)(k:K .next (nL c o1 o2 o3 o4 o5 o6 o7 o8 t na u1 u2 u3) (H.set na (.list (vs++[t.t])))):nP (nL c o1 o2 o3 o4 o5 o6 o7 o8 t na u1 u2 u3) H K:=by
 delta nP
 exact aJ (jK ⋯ (λH Q q=>kch (B:=(3<100/\Q t.t H)) ⋯ ⟨by decide,q⟩) h a k)
theorem nS_i{o2 o3:bn V}(q:K .next (nX c o1 o2 o3 o4 o5 o6 o7 o8 x na x) H):nS (nX c o1 o2 o3 o4 o5 o6 o7 o8 t na x) H K:=by
 refine kch (B:=(3<100/\3=3/\K .next (upd (upd (upd (nX c o1 o2 o3 o4 o5 o6 o7 o8 t na x) "k1" (.int x.k)) "j1" (.int x.j)) "i1" (.int x.i)) H)) ⋯ ⟨by decide,rfl,?_⟩
 unfold nX nL
 rw[aD,aD,aD]
 exact q
inductive NI(c:GC)(na:Nat)(G:MH)(all:aq T3)(rest:aq V)(lo:Lo)(H:MH):Prop
 |mk {o1 o2 o3 o4 o5 o6 o7 o8 u1 u2 u3:bn V}{t:T3}{acc l:aq T3} (el:lo=nL c o1 o2 o3 o4 o5 o6 o7 o8 t na u1 u2 u3) (er:rest=l.map T3.v) (hx:Hx G H) (hn:H[na]? =ao (.list (acc.map T3.t)))
   (e:acc++nad t l=all) (n:acc.length+l.length<=1000):NI c na G all rest lo H
theorem n_step(gn:G[na]? =none)(I:NI c na G o (v::m) lo H)(u:GoK (NI c na G o m) Q K):nT v lo H λlo1 H1=>nB lo1 H1 K:=by
 cases I with
 | @mk f o2 o3 b a d h g y A C t acc l F D w s e n=>
 refine bV (List.map_eq_cons_iff.mp D.symm) λx l' E J L=>?_
 subst E J L F
 rw[e6]at n
 refine (by
  intro q
  refine kch (B:=(3=3/\nB (upd (upd (upd (nL c f o2 o3 b a d h g t na y A C) "i2" (.int x.i)) "j2" (.int x.j)) "k2" (.int x.k)) H K)) ⋯ ⟨rfl,?_⟩
  delta nL
  rw[aD,aD,aD]
  exact q:∀(q:nB (nX c f o2 o3 b a d h g t na x) H K),nT x.v (nL c f o2 o3 b a d h g t na y A C) H λlo1 H1=>nB lo1 H1 K) (kch (by kernel_rfl:nB (nX c f o2 o3 b a d h g t na x) H K=(bif decide (t.i+t.k=x.i) then bif decide (t.j+t.k=x.j) then K .next (upd (nX c f o2 o3 b a d h g t na x) "k1" (.int (t.k+x.k))) H else nE (nX c f o2 o3 b a d h g t na x) H (bM (sK .next) K) else nE (nX c f o2 o3 b a d h g t na x) H (bM (sK .next) K))) ?_)
 rw[aAf]at e
 have other: ¬(t.i+t.k=x.i/\t.j+t.k=x.j)->nE (nX c f o2 o3 b a d h g t na x) H (bM (sK .next) K):=λz=>by
  rw[cc z]at e
  refine kch (by kernel_rfl:nE (nX c f o2 o3 b a d h g t na x) H K=(bif t.k != 0 then nP (nX c f o2 o3 b a d h g t na x) H (bM nS K) else nS (nX c f o2 o3 b a d h g t na x) H K)) ?_
  by_cases q:t.k=0
  ·rw[cj q]at e
   exact rwL (show (t.k != 0)=aL from by rw[q];rfl) (bC (nS_i (u.nx (.mk rfl rfl w s e (A190 n)))))
  ·rw[cc q]at e
   refine rwL (show (t.k != 0)=be from uu.mpr q) (bH (nP_i s (by rw[bq];exact A191 n) (nS_i (u.nx (.mk (acc:=acc++[t]) rfl rfl (w.set gn) (rwL dv (aK s _)) ?_ ?_)))))
   ·rw[cz];exact e
   ·exact rwL bx (rwL e8 (A192 n))
 by_cases p:t.i+t.k=x.i
 ·by_cases r:t.j+t.k=x.j
  ·rw[cj ⟨p,r⟩]at e
   rw[bp p,bp r]
   exact (by
    intro k q
    unfold nX nL
    rw[aD]
    exact q:∀{k:Int}(q:K .next (nX c f o2 o3 b a d h g ⟨t.i,t.j,k⟩ na x) H),K .next (upd (nX c f o2 o3 b a d h g t na x) "k1" (.int k)) H) (u.nx (.mk rfl rfl w s e (A190 n)))
  ·rw[bp p,bw r]
   exact other λz=>r z.2
 ·exact rwL (bw p) (other λz=>p z.1)
theorem aJe{P:bn (V×(Nat×Nat))->MH->Prop}{b:q6 C 2}{t:T3}(a:lst H (.ref r)=ao vs)(e:vs[p]? =ao t.t)(h:P (ao (t.v,(r,p+1))) H):(tR C 2 b).nx (r,p) H P:=Lf.mk a (by exact rwL e h)
theorem aAl{j:q6 C 2}(d:G[na]? =ao (.list (l.map T3.t)))(i:G[c]? =none)(f:l.length<1000000)(k:∀ {H'},Hx G H'->H'[c]? =ao (.list (l.map T3.v))->P H'):∀ (a done:aq T3){H:MH},done++a=l->Hx G H->H[c]? =ao (.list (done.map T3.v))->eJ (tR C 2 j) c (a.length+1) (na,done.length) H P:=λn=>by
 induction n with
 |nil=>
  intro done H e b h
  rw[c6]at e
  subst e
  exact (Lf.mk (aG (b _ _ d)) (by exact rwL (ft (by rw[bq];exact c5 _)) (k b h)))
 |cons t a g=>
  refine λdone H e b h=>(aJe (t:=t) (aG (b _ _ d)) ?_ (Lf.mk (c7 h) ⟨?_,?_⟩))
  ·rw[ma,<-e,gO (c5 _),ox];rfl
  ·rw[bq]
   rw[<-e,bx]at f
   exact ec (lq _ _) f
  ·have:=g (done++[t]) (by rw[cz];exact e) (b.set i) (by exact rwL dv (aK h _))
   rw[bx]at this
   exact this
theorem len_i(h:LI H r l)(a:l.length<1000000)(q:Q (.int l.length) H):bQ [.ref r] H Q:=by
 refine Lp.mk ?_ q
 show(lst H (.ref r)).bind _=_
 rw[h]
 show(if (l.map V.int).length<1000000 then _ else _)=_
 rw[bq,cj a]
theorem aAu(x:T3):∀ l:aq T3,ins fT x.v (l.map T3.v)=(ins T3.i x l).map T3.v:=λn=>by
 induction n with
 |nil=>
  exact rfl
 |cons y r a=>
  show(if x.i<y.i then x.v::y.v::r.map T3.v else y.v::ins fT x.v (r.map T3.v))=(if x.i<y.i then x::y::r else y::ins T3.i x r).map T3.v
  refine rwL a ?_
  split<;>rfl
theorem sD:∀ l:aq T3,isort fT (l.map T3.v)=(isort T3.i l).map T3.v
 | []=>rfl
 |x::r=>by
  show ins fT x.v (isort fT (r.map T3.v))=(ins T3.i x (isort T3.i r)).map T3.v
  rw[sD r,aAu]
def Blocks(a b:aq Int)(bl:aq T3):Prop:=∃ r,Run a b [⟨0,a.length,0,b.length⟩] [] r/\bl=nad ⟨0,0,0⟩ (isort T3.i r)++[⟨a.length,b.length,0⟩]
theorem Blocks.uniq(h:Blocks a b l)(h':Blocks a b l'):l=l':=by
 refine xEA h λr c d=>xEA h' λr' e f=>?_
 cases c.uniq e
 rw[d,f]
theorem fG_0:loB ["self"] [.ref s] lo0=look (fG (ao (.ref s)) none none none none none none none none none none none none):=by
 rw[<-fW (fG none none none none none none none none none none none none none) ⋯]
 show upd _ "self" (.ref s)=_
 rw[aD];kernel_rfl
theorem aIf{a:cw->MH->Prop}(h:tE (eN x) lo H P)(k:∀ c H',P c H'->a c H'):tE (eN x) lo H a:=Lf.elim h λv e h=>Lf.mk e (Lf.elim h λc e h=>Lf.mk e (k _ _ h))
def gR11:SF:=aB (bS X) (gR12 X)
def gR10:SF:=aB (cH X) (gR11 X)
def gR9:SF:=aB (cJ X) (gR10 X)
theorem g_6{o2 o3:bn V}:gR6 X (gL c o1 o2 o3 o4 o5 o6 o7 o8) H K=(Lf (H[c.m]?.bind MO.own) λvs=>okSort vs/\gR9 X (upd (upd (upd (upd (gL c o1 o2 o3 o4 o5 o6 o7 o8) "i1" (.int 0)) "j1" (.int 0)) "k1" (.int 0)) "non_adjacent" (.ref (H.set c.m (.list (isort fT vs))).length)) (H.set c.m (.list (isort fT vs))++[.list []]) K):=by kernel_rfl
theorem g_6n{o2 o3:bn V}:upd (upd (upd (upd (gL c o1 o2 o3 o4 o5 o6 o7 o8) "i1" (.int 0)) "j1" (.int 0)) "k1" (.int 0)) "non_adjacent" (.ref na)=nL c o1 o2 o3 o4 o5 o6 o7 o8 ⟨0,0,0⟩ na none none none:=by
 unfold gL nL
 rw[aD,aD,aD,aD];kernel_rfl
theorem g_9{o2 o3:bn V}:gR9 X (nL c o1 o2 o3 o4 o5 o6 o7 o8 t na u1 u2 u3) H K=((∃ vs,lst H (.ref c.m)=ao vs)/\∃ n,cZ (bA C) nT nB n (c.m,0) (nL c o1 o2 o3 o4 o5 o6 o7 o8 t na u1 u2 u3) H (bM (gR10 X) K)):=by kernel_rfl
theorem g_12{o2 o3:bn V}:gR12 X (nL c o1 o2 o3 o4 o5 o6 o7 o8 t na u1 u2 u3) H (jJ Q)=((∃ vs,lst H (.ref na)=ao vs)/\∃ n,eJ (tR C 2 X.makeM) H.length n (na,0) (H++[.list []]) λH2=>St c.s "matching_blocks" (.ref H.length) H2 λH3=>At c.s "matching_blocks" H3 λv=>Q v H3):=by kernel_rfl
theorem g_11{o2 o3:bn V}(h:H[na]? =ao (.list vs))(a:vs.length<1000000)(k:gR12 X (nL c o1 o2 o3 o4 o5 o6 o7 o8 t na u1 u2 u3) (H.set na (.list (vs++[T3.t ⟨c.la,c.lb,0⟩]))) K):gR11 X (nL c o1 o2 o3 o4 o5 o6 o7 o8 t na u1 u2 u3) H K:=by
 exact aJ (jK ⋯ (λH Q q=>kch (B:=(3<100/\Q (T3.t ⟨c.la,c.lb,0⟩) H)) ⋯ ⟨by decide,q⟩) h a k)
theorem g_1011{o2 o3:bn V}{a:aq T3}(h:H[na]? =ao (.list (acc.map T3.t)))(b:acc.length<999999)(e:acc++nad t []=a)(k:∀ {H'},Ex H H' na->H'[na]? =ao (.list ((a++[T3.mk c.la c.lb 0]).map T3.t))->gR12 X (nL c o1 o2 o3 o4 o5 o6 o7 o8 t na u1 u2 u3) H' K):gR10 X (nL c o1 o2 o3 o4 o5 o6 o7 o8 t na u1 u2 u3) H K:=by
 refine kch ((by intro X;kernel_rfl:∀(X:XX C),gR10 X (nL c o1 o2 o3 o4 o5 o6 o7 o8 t na u1 u2 u3) H K=(bif t.k != 0 then nP (nL c o1 o2 o3 o4 o5 o6 o7 o8 t na u1 u2 u3) H (bM (gR11 X) K) else gR11 X (nL c o1 o2 o3 o4 o5 o6 o7 o8 t na u1 u2 u3) H K)) X) ?_
 rw[aAe]at e
 subst e
 by_cases q:t.k=0
 ·rw[cj q,c6]at k
  exact rwL (show (t.k != 0)=aL from by rw[q];rfl) (bC (g_11 X h (by rw[bq];exact kq b (by decide)) (k .set (rwL dv (aK h _)))))
 ·rw[cc q]at k
  exact rwL (show (t.k != 0)=be from uu.mpr q) (bH (nP_i h (by rw[bq];exact kq b (by decide)) (g_11 X (aK h (.list (acc.map T3.t++[t.t]))) (by rw[bx,bq];exact Nat.succ_lt_succ b) (k (Ex.set.trans .set) (rwL dv (rwL dv (aK (aK h (.list (acc.map T3.t++[t.t]))) _)))))))
theorem gmb_ok{rd:Nat}(S:SM H s ra rb rd R n fs f a b)(x:fs "matching_blocks" =ao .none)(al:a.length<200)(O:∀ r,Run a b [⟨0,a.length,0,b.length⟩] [] r->okSort (r.map T3.v))(k:∀ {H' r E},Ex H H' s->H[r]? =none->r≠s->H'[s]? =ao (.inst (fput fs "matching_blocks" (.ref r)))->H'[r]? =ao (.list (E.map T3.v))->Blocks a b E->Q (.ref r) H'):bO X [.ref s] H Q:=by
 refine kch ((by intro X s Q;kernel_rfl:∀(X:XX C){s:Nat}{Q:EK},bO X [.ref s] H Q=(1=1/\At s "matching_blocks" H λv=>Lp (oIs not v .none H) λv H1=>Lf (tr v H1) λb=>bif b then At s "matching_blocks" H1 λv=>Q v H1 else gR2 X (loB ["self"] [.ref s] lo0) H1 (jJ Q))) X) ⟨rfl,At.mk S.o x (Lp.mk rfl (Lf.mk rfl (bC (rwL fG_0 (kch ((by intro X s K;kernel_rfl:∀(X:XX C){s:Nat}{K:SK},gR2 X (look (fG (ao (.ref s)) none none none none none none none none none none none none)) H K=(At s "a" H λva=>bQ [va] H λn H1=>At s "b" H1 λvb=>bQ [vb] H1 λm c=>2<100/\2=2/\ aB (bZ X) (aB (bY X) (aB (bX X) (gR6 X))) (upd (upd (look (fG (ao (.ref s)) none none none none none none none none none none none none)) "lb" m) "la" n) c K)) X) (At.mk S.o S.fa (len_i S.ia S.al (At.mk S.o S.fb (len_i S.ib S.bl ⟨by decide,rfl,?_⟩)))))))))⟩
 rw[aD,aD]
 refine kch ((by intro X s la lb K;kernel_rfl:∀(X:XX C){s:Nat}{la lb:Int}{K:SK},aB (bZ X) (aB (bY X) (aB (bX X) (gR6 X))) (look (fG (ao (.ref s)) (ao (.int la)) (ao (.int lb)) none none none none none none none none none none)) H K= (4<100/\∃ n,runW (tE (eN "queue")) (gB X) n (upd (upd (look (fG (ao (.ref s)) (ao (.int la)) (ao (.int lb)) none none none none none none none none none none)) "queue" (.ref H.length)) "matching_blocks" (.ref (H++[MO.list [Wd.v ⟨0,la,0,lb⟩]]).length)) ((H++[.list [Wd.v ⟨0,la,0,lb⟩]])++[.list []]) (bM (gR6 X) K))) X) ⟨by decide,2000,?_⟩
 rw[aD,aD]
 have d:(H++[MO.list [Wd.v ⟨0,a.length,0,b.length⟩]]).length=H.length+1:=bx
 have D:H[(H++[MO.list [Wd.v ⟨0,a.length,0,b.length⟩]]).length]? =none:=by exact rwL d (ft (uP _))
 refine while_ (QI a b ⟨s,a.length,b.length,H.length,(H++[MO.list [Wd.v ⟨0,a.length,0,b.length⟩]]).length⟩ H) (λI=>q_step X S (aH H) D (by exact rwL d ((qu _).symm):H.length≠(H++[MO.list [Wd.v ⟨0,a.length,0,b.length⟩]]).length) I ?_) aIf 2000 1000 (by decide)
  (.mk (q:=[⟨0,a.length,0,b.length⟩]) rfl ((Hx.app _ _).trans (.app _ _)) (Hx.app _ _ _ _ (aU _ _)) (aU _ _) (λv U=>?_) (λr h=>h) ?_ ?_)
 ·intro lo H1 I
  cases I with
  | @mk q m o1 o2 o3 o4 Z o6 o7 o8 d g hq x w r M N=>
  subst d
  have W:=List.eq_nil_of_length_eq_zero (Nat.le_zero.mp (Nat.le_trans (yG q) M))
  subst W
  refine kch (g_6 X) (Lf.mk (c7 x) ⟨O m (r m .nil),?_⟩)
  rw[g_6n,sD]
  have u:=aK x (.list ((isort T3.i m).map T3.v))
  have p:=g.set (m:=.list ((isort T3.i m).map T3.v)) D
  revert u p
  generalize H1.set _ (.list ((isort T3.i m).map T3.v))=c
  intro u p
  refine kch (g_9 X) ⟨⟨_,aG (Hx.app _ _ _ _ u)⟩,_,dJ (NI ⟨s,a.length,b.length,H.length,_⟩ c.length c (nad ⟨0,0,0⟩ (isort T3.i m))) (λI=>?_) (λI=>?_) (λI T=>n_step (aH c) I T) ((isort T3.i m).map T3.v) 0 rfl
   (.mk rfl rfl (.app _ _) (aU _ _) rfl (by rw[ly,Nat.zero_add];exact (by exact rwL ((b5 T3.i m).length_eq) N:(isort T3.i m).length<=1000)))⟩
  ·cases I with
   |mk d J g=>exact aG (g _ _ u)
  ·cases I with
   | @mk p1 p2 p3 p4 p5 p6 p7 p8 u1 u2 u3 t acc l d J g P e n=>
   subst d
   cases jc.mp J.symm
   refine g_1011 X P (by exact A193 (rwR ly n)) e λ{F} y B=>kch (g_12 X) ⟨⟨_,aG B⟩,_,aAl B (aH F) ?_ (λ{H7} L Y=>?_) _ [] (rA _) (.app _ _) (aU _ _)⟩
   ·have:(nad t []).length<=1:=by
     rw[aAe];split
     ·exact hN 1
     ·exact c5 1
    exact rwL bx (rwL e8 (A194 n this (by rw[<-e,bx]:(nad ⟨0,0,0⟩ (isort T3.i m)).length=acc.length+(nad t []).length)))
   ·have G:=(p.trans (y.hx g (aH c))).trans L
    have A:=G _ _ S.o
    have j:F.length≠s:=λz=>by
     have:=(p.trans (y.hx g (aH c))) _ _ S.o
     rw[<-z,aH]at this;cases this
    refine St.mk A (At.mk (aK A _) ⋯ (k (λj m n e=>aE (G _ _ e) n) ((p.trans (y.hx g (aH c))).fresh) j (aK A _) (aE Y j.symm) ⟨m,(r m .nil),rfl⟩))
 ·cases dc.mp U
  exact⟨Int.le_refl _,eO _,Int.le_refl _,Int.le_refl _,eO _,Int.le_refl _⟩
 ·exact(Yj1 al:2*((a.length:Int)-0).toNat+1+0<=1000)
 ·exact(Yj0 al:0+(2*((a.length:Int)-0).toNat+1+0)<=1000)
def Tg.s:Tg->Str | .rep=> "replace" | .del=> "delete" | .ins=> "insert" | .eq=> "equal"
def Op.v(o:Op):V:=.tup [.str o.tag.s,.int o.i1,.int o.i2,.int o.j1,.int o.j2]
def oL(s ans:Nat)(i j:Int)(u1 u2 u3 u4:bn V):Lo:=look [("self",ao (.ref s)),("i",ao (.int i)),("j",ao (.int j)),("answer",ao (.ref ans)),("ai",u1),("bj",u2),("size",u3),("tag",u4)]
def oX(s ans:Nat)(i j:Int)(t:T3)(u4:bn V):Lo:=oL s ans i j (ao (.int t.i)) (ao (.int t.j)) (ao (.int t.k)) u4
def oT:AF:=b3 3 (asC (aN "ai") (asC (aN "bj") (asC (aN "size") asN)))
def oBR(R:SF):SF:=aB (bD "tag" (eK (.str ""))) (aB (sIf (aW (tE (aA oLt (eN "i") (eN "ai"))) (aW (tE (aA oLt (eN "j") (eN "bj"))) (tK be))) (aB (bD "tag" (eK (.str "replace"))) (sK .next)) (aB (sIf (tE (aA oLt (eN "i") (eN "ai"))) (aB (bD "tag" (eK (.str "delete"))) (sK .next)) (aB (sIf (tE (aA oLt (eN "j") (eN "bj"))) (aB (bD "tag" (eK (.str "insert"))) (sK .next)) (sK .next)) (sK .next))) (sK .next))) R)
def oB:SF:=oBR oR
theorem oT_i(q:oB (oX s ans i j t u4) H K):oT t.v (oL s ans i j u1 u2 u3 u4) H λlo1 H1=>oB lo1 H1 K:=by
 refine kch (B:=(3=3/\oB (upd (upd (upd (oL s ans i j u1 u2 u3 u4) "ai" (.int t.i)) "bj" (.int t.j)) "size" (.int t.k)) H K)) ⋯ ⟨rfl,?_⟩
 delta oL
 rw[aD,aD,aD]
 exact q
theorem aEm(q:oR (oX s ans i j t (ao (.str y))) H K):oR (upd (upd (oX s ans i j t u4) "tag" (.str x)) "tag" (.str y)) H K:=by
 unfold oX oL
 rw[aD,aD]
 exact q
theorem oB_nf(R:SF):oBR R (oX s ans i j t u4) H K=(bif decide (i<t.i) then bif decide (j<t.j) then R (upd (upd (oX s ans i j t u4) "tag" (.str "")) "tag" (.str "replace")) H K else(bif decide (i<t.i) then R (upd (upd (oX s ans i j t u4) "tag" (.str "")) "tag" (.str "delete")) H K else bif decide (j<t.j) then R (upd (upd (oX s ans i j t u4) "tag" (.str "")) "tag" (.str "insert")) H K else R (upd (oX s ans i j t u4) "tag" (.str "")) H K) else(bif decide (i<t.i) then R (upd (upd (oX s ans i j t u4) "tag" (.str "")) "tag" (.str "delete")) H K else bif decide (j<t.j) then R (upd (upd (oX s ans i j t u4) "tag" (.str "")) "tag" (.str "insert")) H K else R (upd (oX s ans i j t u4) "tag" (.str "")) H K)):=by kernel_rfl
theorem t_rep:Str.ofString "replace" =Tg.s .rep:=rfl
theorem t_del:Str.ofString "delete" =Tg.s .del:=rfl
theorem t_ins:Str.ofString "insert" =Tg.s .ins:=rfl
theorem oR_0:oR (oX s ans i j t (ao (.str ""))) H K=oR2 (oX s ans i j t (ao (.str ""))) H K:=by kernel_rfl
theorem oP1_i(h:H[ans]? =ao (.list vs))(a:vs.length<1000000)(k:K .next (oX s ans i j t (ao (.str x))) (H.set ans (.list (vs++[.tup [.str x,.int i,.int t.i,.int j,.int t.j]])))):oP1 (oX s ans i j t (ao (.str x))) H K:=by
 delta oP1
 exact aJ (jK ⋯ (λH Q q=>kch (B:=(5<100/\Q (.tup [.str x,.int i,.int t.i,.int j,.int t.j]) H)) ⋯ ⟨by decide,q⟩) h a k)
theorem oR3_nf:oR3 (oX s ans i j t u4) H K=(bif t.k != 0 then oP2 (oX s ans i j t u4) H (bM (sK .next) K) else K .next (oX s ans i j t u4) H):=by kernel_rfl
theorem oP2_i(h:H[ans]? =ao (.list vs))(a:vs.length<1000000)(k:K .next (oX s ans i j t u4) (H.set ans (.list (vs++[Op.v ⟨.eq,t.i,i,t.j,j⟩])))):oP2 (oX s ans i j t u4) H K:=by
 delta oP2
 exact aJ (jK ⋯ (λH Q q=>kch (B:=(5<100/\Q (Op.v ⟨.eq,t.i,i,t.j,j⟩) H)) ⋯ ⟨by decide,q⟩) h a k)
theorem oR2_k(h:H[ans]? =ao (.list (acc.map Op.v)))(a:acc.length<1000000)(k:∀ {H'},Ex H H' ans->H'[ans]? =ao (.list ((acc++if t.k=0 then [] else [Op.mk .eq t.i (t.i+t.k) t.j (t.j+t.k)]).map Op.v))->K .next (oX s ans (t.i+t.k) (t.j+t.k) t u4) H'):oR2 (oX s ans i j t u4) H K:=by
 refine (by
  intro q
  refine kch (B:=(2<100/\2=2/\oR3 (upd (upd (oX s ans i j t u4) "j" (.int (t.j+t.k))) "i" (.int (t.i+t.k))) H K)) ⋯ ⟨by decide,rfl,?_⟩
  unfold oX oL
  rw[aD,aD]
  exact q:∀(q:oR3 (oX s ans (t.i+t.k) (t.j+t.k) t u4) H K),oR2 (oX s ans i j t u4) H K) (kch oR3_nf ?_)
 by_cases q:t.k=0
 ·rw[cj q,c6]at k
  rw[show (t.k != 0)=aL from by rw[q];rfl]
  exact bC (k (λb b b e=>e) h)
 ·rw[cc q,dv]at k
  rw[show (t.k != 0)=be from uu.mpr q]
  exact bH (oP2_i h (by rw[bq];exact a) (k .set (aK h _)))
theorem oR_k(g:Tg)(h:H[ans]? =ao (.list (acc.map Op.v)))(a:acc.length<999999)(k:∀ {H'},Ex H H' ans->H'[ans]? =ao (.list (((acc++[Op.mk g i t.i j t.j])++if t.k=0 then [] else [Op.mk .eq t.i (t.i+t.k) t.j (t.j+t.k)]).map Op.v))->K .next (oX s ans (t.i+t.k) (t.j+t.k) t (ao (.str g.s))) H'):oR (oX s ans i j t (ao (.str g.s))) H K:=by
 refine kch ((by intro g;cases g<;>kernel_rfl:∀(g:Tg),oR (oX s ans i j t (ao (.str g.s))) H K=oP1 (oX s ans i j t (ao (.str g.s))) H (bM oR2 K)) g) (oP1_i h (by rw[bq];exact kq a (by decide)) (oR2_k (rwL dv (aK h _)) ?_ λe h'=>k (Ex.set.trans e) h'))
 ·exact rwL bx (Nat.succ_lt_succ a)
theorem oB_k(h:H[ans]? =ao (.list (acc.map Op.v)))(c:acc.length<999999)(k:∀ {H' u},Ex H H' ans->H'[ans]? =ao (.list ((acc++(gap i j t.i t.j++if t.k=0 then [] else [Op.mk .eq t.i (t.i+t.k) t.j (t.j+t.k)])).map Op.v))->K .next (oX s ans (t.i+t.k) (t.j+t.k) t u) H'):oB (oX s ans i j t u4) H K:=by
 refine kch (oB_nf oR) ?_
 unfold gap at k
 by_cases b:i<t.i
 ·by_cases a:j<t.j
  ·rw[cj b,cj a,<-cz]at k
   rw[bp b,bp a]
   exact rwL t_rep (bH (bH (aEm (oR_k .rep h c k))))
  ·rw[cj b,cc a,<-cz]at k
   rw[bp b,bw a]
   exact rwL t_del (bH (bC (bH (aEm (oR_k .del h c k)))))
 ·by_cases a:j<t.j
  ·rw[cc b,cj a,<-cz]at k
   rw[bw b,bp a]
   exact rwL t_ins (bC (bC (bH (aEm (oR_k .ins h c k)))))
  ·rw[cc b,cc a,rA]at k
   rw[bw b,bw a]
   exact bC (bC (bC ((by
    unfold oX oL
    rw[aD]
    exact (kch oR_0 (oR2_k h (kq c (by decide)) k))))))
inductive OI(s ans:Nat)(G:MH)(all:aq Op)(rest:aq V)(lo:Lo)(H:MH):Prop
 |mk {u1 u2 u3 u4:bn V}{i j:Int}{acc:aq Op}{l:aq T3} (el:lo=oL s ans i j u1 u2 u3 u4) (er:rest=l.map T3.v) (hx:Ex G H ans) (hn:H[ans]? =ao (.list (acc.map Op.v)))
   (e:acc++ops i j l=all) (n:acc.length+2*l.length<=100000):OI s ans G all rest lo H
theorem aEz{r:Nat}(h:H[s]? =ao m)(h':H[r]? =ao m')(n:m≠m'):s≠r:=λz=>by
 subst z
 exact n (Option.some.inj (h.symm.trans h'))
theorem Ex.li(e:Ex H H' s)(h:H[s]? =ao (.inst fs))(q:LI H r l):LI H' r l:=by
 refine xEA (bt.mp q) λi b q=>xEA (bt.mp q) λm a q=>bt.mpr ⟨i,b,bt.mpr ⟨m,e _ _ (aEz h a λz=>?_) a,q⟩⟩
 subst z
 cases q
theorem SM.ex{rd:Nat}(S:SM H s ra rb rd g n fs f a b)(e:Ex H H' s)(o:H'[s]? =ao (.inst c))(q:c "a" =fs "a")(i:c "b" =fs "b")(h:c "b2j" =fs "b2j")(p:c "bjunk" =fs "bjunk"):SM H' s ra rb rd g n c f a b:=⟨o,q.trans S.fa,i.trans S.fb,h.trans S.fd,p.trans S.fj,e.li S.o S.ia,e.li S.o S.ib,e _ _ (aEz S.o S.d nofun) S.d,e _ _ (aEz S.o S.j nofun) S.j,λv=>(S.bj v).imp_right fun⟨r,js,k,l,m⟩=>⟨r,js,k,e.li S.o l,m⟩,S.al,S.bl⟩
def oN(s i j ans:bn V):Nv:=[("self",s),("i",i),("j",j),("answer",ans),("ai",none),("bj",none),("size",none),("tag",none)]
def oR5:SF:=aB (i7 X) (sK .next)
def oR4:SF:=aB (i8 X) (oR5 X)
def oRA(R:SF):SF:=aB (jA X) (aB (i9 X) R)
theorem z0:bU X [.ref s] H Q=(1=1/\At s "opcodes" H λv=>Lp (oIs not v .none H) λv H1=>Lf (tr v H1) λb=>bif b then At s "opcodes" H1 λv=>Q v H1 else oRA X (oR4 X) (loB ["self"] [.ref s] lo0) H1 (jJ Q)):=by kernel_rfl
theorem o_4:oR4 X (oL s ans 0 0 none none none none) H K=((∃ b,H[s]? =ao (.inst b))/\bO X [.ref s] H λv a=>Lf v.rf λi=>(∃ vs,lst a (.ref i)=ao vs)/\∃ n,cZ (bA C) oT oB n (i,0) (oL s ans 0 0 none none none none) a (bM (oR5 X) K)):=by kernel_rfl
def fsO(fs:Str->bn V)(ans r:Nat):Str->bn V:=fput (fput fs "opcodes" (.ref ans)) "matching_blocks" (.ref r)
theorem zY:∀ (l:aq T3) (i j:Int),(ops i j l).length<=2*l.length
 | [],_,_=>c5 _
 |t::l,i,j=>by
  have b:(gap i j t.i t.j).length<=1:=by
   delta gap
   split<;>split<;>first |exact c5 1 |exact hN 1
  have a:(if t.k=0 then [] else [Op.mk .eq t.i (t.i+t.k) t.j (t.j+t.k)]).length<=1:=by
   split
   ·exact hN 1
   ·exact c5 1
  rw[aEj,bx,bx,e6]
  exact A199 (zY l (t.i+t.k) (t.j+t.k)) b a
theorem Run.okSort(h:Run a b [⟨0,a.length,0,b.length⟩] [] r)(rl:r.length<64):okSort (r.map T3.v):=by
 exact⟨λv c=>(xEA (gw.mp c) λt q e=>e▸rfl),ja.mpr h.sorted.1,by rw[bq];exact rl⟩
theorem Blocks.len(h:Blocks a b l)(al:a.length<200):l.length<=1000:=by
 refine xEA h λr c d=>?_
 have:=oJ (isort T3.i r) ⟨0,0,0⟩
 rw[(b5 T3.i r).length_eq]at this
 have:=c.len
 rw[d,bx,e8]
 omega
def Ops(a b:aq Int)(l:aq Op):Prop:=∃ bl,Blocks a b bl/\l=ops 0 0 bl
theorem Ops.uniq(h:Ops a b l)(h':Ops a b l'):l=l':=by
 refine xEA h λr c d=>xEA h' λr' e f=>?_
 rw[d,f,c.uniq e]
theorem Ops.cod(h:Ops a b l):Cod a b none 0 0 l:=by
 refine xEA h λbl d c=>?_;clear h;obtain⟨r,f,rfl⟩:=d;subst c
 exact((by
  intro a b l h
  cases h with
  |nil=>exact .nil
  | @cons i j t l f g X h=>
   rw[aAf]
   by_cases q:(0:Int)+0=t.i/\(0:Int)+0=t.j
   ·rw[cj q]
    have e:(⟨0,0,0+t.k⟩:T3)=t:=by
     cases t
     cases q.1;cases q.2
     rw[me];rfl
    exact rwL e (lX h X f g nofun)
   ·rw[cc q]
    exact lX h X f g nofun:∀{a b:aq Int}{l:aq T3}(h:CH a b 0 0 l),NA a b aL 0 0 (nad ⟨0,0,0⟩ l)) f.sorted.2).cod (eO _) (eO _)
theorem pW{rd:Nat}(S:SM H s ra rb rd A n fs f a b)(D:fs "matching_blocks" =ao .none)(y:fs "opcodes" =ao .none)(al:a.length<200)(rl:∀ r,Run a b [⟨0,a.length,0,b.length⟩] [] r->r.length<64)(k:∀ {H' r l},Ex H H' s->H.length≠s->H'[s]? =ao (.inst (fsO fs H.length r))->H'[H.length]? =ao (.list (l.map Op.v))->Ops a b l->Q (.ref H.length) H'):bU X [.ref s] H Q:=(by
 intro X s ra rb rd A n fs f Q S D y al L t k
 refine kch (z0 X) ⟨rfl,At.mk S.o y (Lp.mk rfl (Lf.mk rfl (bC ?_)))⟩
 rw[(by
  intro s
  rw[<-fW (oN none none none none) ⋯]
  show upd _ "self" (.ref s)=_
  rw[aD];kernel_rfl:∀{s:Nat},loB ["self"] [.ref s] lo0=look (oN (ao (.ref s)) none none none))]
 have G:=Hx.app H [MO.list []]
 have ns:=bB S.o
 refine kch ((by intro X R s K;kernel_rfl:∀(X:XX C)(R:SF){s:Nat}{K:SK},oRA X R (look (oN (ao (.ref s)) none none none)) H K=(St s "opcodes" (.ref H.length) (H++[.list []]) λH2=>R (upd (upd (upd (look (oN (ao (.ref s)) none none none)) "i" (.int 0)) "j" (.int 0)) "answer" (.ref H.length)) H2 K)) X (oR4 X)) (St.mk (G _ _ S.o) ?_)
 rw[aD,aD,aD]
 have s2:=aK (G _ _ S.o) (.inst (fput fs "opcodes" (.ref H.length)))
 have g:Ex H ((H++[MO.list []]).set s (.inst (fput fs "opcodes" (.ref H.length)))) s:=λj m n e=>aE (G _ _ e) n
 refine kch (o_4 X) ⟨⟨_,s2⟩,gmb_ok X (S.ex g s2 ⋯ ⋯ ⋯ ⋯) (kch ⋯ D) al L λ{T r c} d M rs s3 J B=>Lf.mk rfl ⟨⟨_,aG J⟩,_,dJ (OI s H.length T (ops 0 0 c)) (λI=>?_) (λI=>?_) (λI Z=>(by
  cases I with
  | @mk Y u2 W U i j acc l w E p F e n=>
  refine bV (List.map_eq_cons_iff.mp E.symm) λx l' e1 g d=>?_
  subst e1 g d w
  rw[e6]at n
  rw[aEj]at e
  refine oT_i (oB_k F (zzM1 0x15ec31ffd07da0000387583d07da400bea00007 [acc.length,l'.length] ⋯ n) λ{H' u} O h'=>Z.nx (.mk rfl rfl (p.trans O) h' ?_ ?_))
  ·rw[cz,cz];exact e
  ·have N:(gap i j x.i x.j).length<=1:=by
    delta gap
    split<;>split<;>first |exact c5 1 |exact hN 1
   have P:(if x.k=0 then [] else [(⟨.eq,x.i,x.i+x.k,x.j,x.j+x.k⟩:Op)]).length<=1:=by
    split
    ·exact hN 1
    ·exact c5 1
   exact rwL bx (rwL bx (A198 n N P)))) (c.map T3.v) 0 rfl
  (.mk (acc:=[]) rfl rfl (λ_ _ _ e=>e) (d _ _ ns.symm (aE (aU _ _) ns.symm)) rfl (by exact rwL ly (zzM1 0xb0e1d60f680be03d0007e8f68007 [c.length] ⋯ (t c B))))⟩⟩
 ·cases I with
  |mk w E p=>exact aG (p _ _ (λz=>by rw[<-z,(aE (aU _ _) ns.symm)]at M;exact cyM M) J)
 ·cases I with
  | @mk Y u2 W U i j acc l w E p F e n=>
  subst w
  cases jc.mp E.symm
  rw[(by exact λi j=>rfl:∀(i j:Int),ops i j []= []),c6]at e
  subst e
  exact kch (by kernel_rfl) (k (λj m q h=>p _ _ (λz=>by rw[<-z,aH]at h;cases h) (d _ _ q (g _ _ q h))) ns (p _ _ ns s3) F B):∀(X:XX C){s ra rb rd A n:Nat}{fs:Str->bn V}{f:Int->bn V}{Q:EK}(S:SM H s ra rb rd A n fs f a b)(D:fs "matching_blocks" =ao .none)(y:fs "opcodes" =ao .none)(al:a.length<200)(L:∀ r,Run a b [⟨0,a.length,0,b.length⟩] [] r->okSort (r.map T3.v))(t:∀ c,Blocks a b c->c.length<=1000)(k:∀ {H' r c},Ex H H' s->H.length≠s->H'[s]? =ao (.inst (fsO fs H.length r))->H'[H.length]? =ao (.list ((ops 0 0 c).map Op.v))->Blocks a b c->Q (.ref H.length) H'),bU X [.ref s] H Q) X S D y al (λr h=>h.okSort (rl r h)) (λbl h=>h.len al) (λe1 g d e4 B=>k e1 g d e4 ⟨_,B,rfl⟩)
def Tg.isEq:Tg->cw | .eq=>be |_=>aL
def Op.hd(o:Op)(n:Int):Op:=⟨o.tag,o.i1,min o.i2 (o.i1+n),o.j1,min o.j2 (o.j1+n)⟩
def Op.tl(o:Op)(n:Int):Op:=⟨o.tag,max o.i1 (o.i2-n),o.i2,max o.j1 (o.j2-n),o.j2⟩
def rY(n:Int)(o:Op):cw:=o.tag.isEq && decide (o.i2-o.i1>n+n)
def kW(cur:aq Op):cw:=match cur with | []=>aL | [o]=> !o.tag.isEq |_=>be
def grps(n:Int)(cur:aq Op):aq Op->aq (aq Op)
 | []=>bif kW cur then [cur] else []
 |o::l=>bif rY n o then(cur++[o.hd n])::grps n [o.tl n] l else grps n (cur++[o]) l
theorem aF9(n:Int)(cur:aq Op):grps n cur []=bif kW cur then [cur] else []:=rfl
theorem jV(n:Int)(cur:aq Op)(o:Op)(l:aq Op):grps n cur (o::l)=bif rY n o then(cur++[o.hd n])::grps n [o.tl n] l else grps n (cur++[o]) l:=rfl
def rG(n:Int):aq Op->aq Op
 | []=>[]
 |o::l=>(bif o.tag.isEq then o.tl n else o)::l
def gE(n:Int):aq Op->aq Op
 | []=>[]
 | [o]=>[bif o.tag.isEq then o.hd n else o]
 |o::l=>o::gE n l
def gX:aq Op->aq Op
 | []=>[⟨.eq,0,1,0,1⟩]
 |l=>l
def groups(n:Int)(l:aq Op):aq (aq Op):=grps n [] (gE n (rG n (gX l)))
def kL(s:Nat)(n:Int)(cd:Nat)(gr:Nat)(u1 u2 u3 u4 u5:bn V):Lo:=look [("self",ao (.ref s)),("n",ao (.int n)),("codes",ao (.ref cd)),("nn",ao (.int (n+n))),("group",ao (.ref gr)),("tag",u1),("i1",u2),("i2",u3),("j1",u4),("j2",u5)]
def kX(s:Nat)(n:Int)(cd gr:Nat)(o:Op):Lo:=kL s n cd gr (ao (.str o.tag.s)) (ao (.int o.i1)) (ao (.int o.i2)) (ao (.int o.j1)) (ao (.int o.j2))
theorem gtgt_i(q:R (kX s n cd gr o) H):aGf X o.v (kL s n cd gr u1 u2 u3 u4 u5) H R:=by
 refine kch (B:=(5=5/\R (upd (upd (upd (upd (upd (kL s n cd gr u1 u2 u3 u4 u5) "tag" (.str o.tag.s)) "i1" (.int o.i1)) "i2" (.int o.i2)) "j1" (.int o.j1)) "j2" (.int o.j2)) H)) ⋯ ⟨rfl,?_⟩
 delta kL
 rw[aD,aD,aD,aD,aD]
 exact q
theorem oV(H:MH)(g:Tg):eqv H (.str g.s) (.str "equal")=ao g.isEq:=by cases g<;>kernel_rfl
theorem gfc_i(q:P (rY n o) H):g_fc X (kX s n cd gr o) H P:=by
 refine kch (B:=(Lp (bN id (.str o.tag.s) (.str "equal") H) λv H1=>Lf (tr v H1) λt=>bif t then(bif decide (o.i2-o.i1>n+n) then P be H1 else P aL H1) else P aL H1)) ⋯
  (Lp.mk (by delta bN;rw[oV];rfl) (Lf.mk rfl ?_))
 unfold rY at q
 cases e:o.tag.isEq with
 |false=>rw[e]at q;exact q
 |true=>
  rw[e,Bool.true_and]at q
  cases a:decide (o.i2-o.i1>n+n) with
  |false=>rw[a]at q;exact q
  |true=>rw[a]at q;exact q
theorem gf1_i(h:H[gr]? =ao (.list vs))(a:vs.length<1000000)(k:K .next (kX s n cd gr o) (H.set gr (.list (vs++[(o.hd n).v])))):g_f1 X (kX s n cd gr o) H K:=jK ⋯ (λH Q q=>kch (B:=(5<100/\Q (o.hd n).v H)) ⋯ ⟨by decide,q⟩) h a k
theorem gf3_i(h:H[gr]? =ao (.list vs))(a:vs.length<1000000)(k:K .next (kX s n cd gr o) (H.set gr (.list (vs++[o.v])))):g_f3 X (kX s n cd gr o) H K:=jK ⋯ (λH Q q=>kch (B:=(5<100/\Q o.v H)) ⋯ ⟨by decide,q⟩) h a k
theorem gf2_i(k:K .next (kX s n cd H.length (o.tl n)) (H++[.list []])):g_f2 X (kX s n cd gr o) H K:=by
 refine kch (B:=(2<100/\2=2/\K .next (upd (upd (upd (kX s n cd gr o) "group" (.ref H.length)) "j1" (.int (max o.j1 (o.j2-n)))) "i1" (.int (max o.i1 (o.i2-n)))) (H++[.list []]))) ⋯ ⟨by decide,rfl,?_⟩
 unfold kX kL
 rw[aD,aD,aD]
 exact k
theorem gfc2_i(h:H[gr]? =ao (.list (cur.map Op.v)))(f:cur.length<1000000)(q:P (kW cur) H):aA0 X (kL s n cd gr u1 u2 u3 u4 u5) H P:=by
 have b:(cur.map Op.v).length<1000000:=by rw[bq];exact f
 refine kch ((by intro X P;kernel_rfl:∀(X:XX C){P:cw->MH->Prop},aA0 X (kL s n cd gr u1 u2 u3 u4 u5) H P=(Lf (tr (.ref gr) H) λt=>bif t then Lp ((lst H (.ref gr)).bind λxs=>if xs.length<1000000 then ao (.int xs.length,H) else none) λm H1=>Lp (bN id m (.int 1) H1) λv d=>Lf (tr v d) λt=>bif t then (Lp (aQ (.ref gr) (.int 0) d) λv g=>Lp (aQ v (.int 0) g) λv i=>Lp (bN id v (.str "equal") i) λv c=>Lf (tr v c) λt=>bif t then(bif !true then P be c else P aL c) else(bif !false then P be c else P aL c)) else(bif !false then P be d else P aL d) else P aL H)) X) (Lf.mk (sT h b) ?_)
 have a:((lst H (.ref gr)).bind λxs=>if xs.length<1000000 then ao (V.int xs.length,H) else none)=ao (.int (cur.map Op.v).length,H):=by
  exact rwL (aG h) (cj b)
 match cur,h,a,q with
 | [],h,a,q=>exact q
 | [o],h,a,q=>
  refine bH (Lp.mk a (Lp.mk (v:=.bool be) (H:=H) ⋯ (Lf.mk rfl (bH (Lp.mk (v:=o.v) (H:=H) ?_ (Lp.mk rfl (Lp.mk (v:=.bool o.tag.isEq) (H:=H) ?_ (Lf.mk rfl ?_))))))))
  ·show((lst H (.ref gr)).bind (at_ 0)).map _=_
   rw[aG h];rfl
  ·delta bN;rw[oV];rfl
  ·have q:P (!o.tag.isEq) H:=q
   cases e:o.tag.isEq with
   |false=>rw[e]at q;exact q
   |true=>rw[e]at q;exact q
 |o::o2::l,h,a,q=>
  refine bH (Lp.mk a (Lp.mk (v:=.bool aL) ?_ (Lf.mk rfl (bC (bH q)))))
  have e:(((o::o2::l).map Op.v).length:Int)≠1:=by rw[bq,e6,e6];exact (zzM0 0x1a01f6807d07da000040c4 [l.length] ⋯)
  delta bN
  rw[(by intro H x y;kernel_rfl:∀(H:MH)(x y:Int),eqv H (.int x) (.int y)=ao (decide (x=y))),bw e];rfl
def Ex2(H H':MH)(i i':Nat):Prop:=∀ (j:Nat) (m:MO),i≠j->i'≠j->H[j]? =ao m->H'[j]? =ao m
theorem Ex2.trans{H1 b:MH}{a:Nat}(h:Ex2 H H1 i a)(h':Ex2 H1 b i a):Ex2 H b i a:=λj m n c e=>h' j m n c (h j m n c e)
theorem Ex2.set{a:Nat}:Ex2 H ((H.set i m).set a m') i a:=λj x n b e=>aE (aE e n) b
theorem Ex2.set1{a:Nat}:Ex2 H (H.set i m) i a:=λj x n b e=>aE e n
theorem iv_of{i:Nat}(h:H[i]? =ao (.itr (ao p))):H[i]?.bind MO.iv=ao p:=by rw[h];rfl
structure OutK(s:Nat)(n:Int)(cd it gr:Nat)(all:aq Op)(p0:Nat)(H:MH)(gs:aq (aq Op))(Q:mD->MH->Prop):Prop where
 yl:∀ {H' o p g},Ex2 H H' it gr->H'[it]? =ao (.itr (ao (cd,p)))->H'[gr]? =ao (.list (g.map Op.v))->gs=g::grps n [o.tl n] (all.drop p)->p0<p->p<=all.length->Q (.yl it (kX s n cd gr o) (.ref gr)) H'
 yr:∀ {H' lo g},Ex2 H H' it gr->H'[gr]? =ao (.list (g.map Op.v))->gs= [g]->(∃ m,H'[it]? =ao m)->Q (.yr lo (.ref gr)) H'
 dn:∀ {H'},Ex2 H H' it gr->gs= []->Q .done H'
theorem tM{p0:Nat}(x:it≠cd)(gi:it≠gr)(t:gr≠cd):∀ (a:aq Op){cur:aq Op}{p:Nat}{H:MH}{u1 u2 u3 u4 u5:bn V}, p0<=p->c.drop p=a->H[cd]? =ao (.list (c.map Op.v))->H[it]? =ao (.itr (ao (cd,p)))->H[gr]? =ao (.list (cur.map Op.v))->cur.length+a.length<=1000->OutK s n cd it gr c p0 H (grps n cur a) Q-> (gfn X).loopN (a.length+1) it (kL s n cd gr u1 u2 u3 u4 u5) H Q:=λl=>by
 induction l with
 |nil=>
  intro cur p H u1 u2 u3 u4 u5 q j k h m f K
  refine Lf.mk (iv_of h) (Lf.mk (aG k) ?_)
  rw[ft (by rw[bq];exact mj.mp j)]
  have b:=aE (m':=.itr none) m gi
  refine gfc2_i X b (by exact A205 (rwR ly f)) ?_
  cases e:kW cur with
  |false=>exact bC (K.dn .set1 (by rw[aF9,e];rfl))
  |true=>exact bH (kch (B:=Q (.yr (kL s n cd gr u1 u2 u3 u4 u5) (.ref gr)) (H.set it (.itr none))) ⋯ (K.yr .set1 b (by rw[aF9,e];rfl) ⟨_,aK h _⟩))
 |cons o a w=>
  intro cur p H u1 u2 u3 u4 u5 q j k h m f K
  have r:c[p]? =ao o:=by rw[<-qa,j];rfl
  have d:c.drop (p+1)=a:=by rw[<-qb,j];rfl
  rw[e6]at f
  have cl:(cur.map Op.v).length<1000000:=by rw[bq];exact A191 f
  refine Lf.mk (iv_of h) (Lf.mk (aG k) ?_)
  rw[ma,r]
  have b:=aE (m':=.itr (ao (cd,p+1))) m gi
  have i:=aK h (.itr (ao (cd,p+1)))
  refine gtgt_i X (gfc_i X ?_)
  cases e:rY n o with
  |true=>
   refine bH (gf1_i X b cl (kch (B:=Q (.yl it (kX s n cd gr o) (.ref gr)) ((H.set it (.itr (ao (cd,p+1)))).set gr (.list (cur.map Op.v++[(o.hd n).v])))) ⋯ (K.yl (g:=cur++[o.hd n]) .set (aE i gi.symm) (rwL dv (aK b _)) ?_ (Nat.lt_succ_of_le q) ((List.getElem?_eq_some_iff.mp r).1))))
   ·rw[jV,e,d];rfl
  |false=>
   refine bC (gf3_i X b cl (w (cur:=cur++[o]) (lw q) d (aE (aE k x) t) (aE i gi.symm) (rwL dv (aK b _)) ?_ ?_))
   ·exact rwL bx (rwL e8 (A192 f))
   ·have u:grps n (cur++[o]) a=grps n cur (o::a):=by rw[jV,e];rfl
    exact rwL u ⟨λe1=>K.yl (Ex2.set.trans e1),λe1=>K.yr (Ex2.set.trans e1),λe1=>K.dn (Ex2.set.trans e1)⟩
theorem aAw{i:Nat}(h:H[i]? =ao (.gen g)):H[i]?.bind MO.gn=ao g:=by rw[h];rfl
class inductive GsA(H:MH)(it gi ai:Nat):aq Nat->aq (aq Op)->Prop
 |nil:GsA H it gi ai [] []
 |cons {r:Nat}{g:aq Op}{rs:aq Nat}{gs:aq (aq Op)} (h:H[r]? =ao (.list (g.map Op.v))) (n1:it≠r) (n2:gi≠r) (n3:ai≠r) (t:GsA H it gi ai rs gs):GsA H it gi ai (r::rs) (g::gs)
theorem GsA.to{a:Nat}(h:GsA H it gi a rs e)(k:∀ (r:Nat) (m:MO),it≠r->gi≠r->a≠r->H[r]? =ao m->H'[r]? =ao m):GsA H' it gi a rs e:=by
 induction h with
 |nil=>exact .nil
 |cons h b c d _ f=>exact .cons (k _ _ b c d h) b c d f
theorem GsA.snoc{a:Nat}{b:aq (aq Op)}(h:GsA H it gi a rs b)(c:H[r]? =ao (.list (g.map Op.v)))(n1:it≠r)(e:gi≠r)(j:a≠r):GsA H it gi a (rs++[r]) (b++[g]):=by
 induction h with
 |nil=>exact .cons c n1 e j .nil
 |cons h d k f _ i=>exact .cons h d k f i
def Hp(B:Nat->bn MO)(H:MH):Prop:=∀ (i:Nat) (m:MO),B i=ao m->H[i]? =ao m
theorem Hp.hx{H1:MH}(h:Hp B H)(x:Hx H H1):Hp B H1:=λi m e=>x _ _ (h i m e)
theorem Hp.set(h:Hp B H)(n:B i=none):Hp B (H.set i m):=λj x e=>aE (h j x e) λq=>aM (n.symm.trans (q▸e))
theorem Hp.fresh(h:Hp B H):B H.length=none:=by
 cases e:B H.length with
 |none=>rfl
 |some m=>exact aM ((aH H).symm.trans (h _ _ e))
structure GW(B:Nat->bn MO)(s:Nat)(n:Int)(cd it gi ai gr:Nat)(all:aq Op)(total:aq (aq Op))(o:Op)(p:Nat)(rs:aq Nat)(H:MH):Prop where
 hx:Hp B H
 g:H[gi]? =ao (.gen (.loop it (kX s n cd gr o)))
 c:H[cd]? =ao (.list (all.map Op.v))
 i:H[it]? =ao (.itr (ao (cd,p)))
 a:H[ai]? =ao (.list (rs.map V.ref))
 l:rs.length<=p
 pl:p<=all.length
 e:∃ gs,GsA H it gi ai rs gs/\gs++grps n [o.tl n] (all.drop p)=total
structure GO(B:Nat->bn MO)(cd it gi ai:Nat)(all:aq Op):Prop where
 bi:B it=none
 bg:B gi=none
 ba:B ai=none
 ic:it≠cd
 ig:it≠gi
 ia:it≠ai
 gc:gi≠cd
 ga:gi≠ai
 ac:ai≠cd
 al:all.length<=900
theorem Ex2.hx(h:Ex2 H H' i c)(x:Hp G H)(b:G i=none)(a:G c=none):Hp G H':=λj m e=>
 h j m (λz=>by rw[z,e]at b;exact cyM b) (λz=>by rw[z,e]at a;exact cyM a) (x j m e)
def exK(ai gi N:Nat)(P:MH->Prop):bn V->MH->Prop:=λo H'=>match o with
 |none=>P H'
 |some v=>Lf (H'[ai]?.bind MO.own) λvs=>vs.length<1000000/\eJ (l4 X.gc 6 λL=>X.gv L) ai N gi (H'.set ai (.list (vs++[v]))) P
theorem aGw{a:Nat}(h:(gfn X).nx gi H (exK X a gi N P)):eJ (l4 X.gc 6 λL=>X.gv L) a (N+1) gi H P:=by
 refine kch (cu ((gfn X).nx gi H) (?_:_=exK X a gi N P)) h
 funext o H'
 cases o<;>rfl
theorem wS{a:Nat}{P:MH->Prop}(h:H[gi]? =ao (.gen (.last lo)))(q:P (H.set gi (.gen .fin))):eJ (l4 X.gc 6 λL=>X.gv L) a (N+1) gi H P:=aGw X (Lf.mk (aAw h) q)
theorem aAx(O:GO B cd it gi z t)(k:∀ {H' rs},Hp B H'->H'[z]? =ao (.list (rs.map V.ref))->GsA H' it gi z rs total->P H'):∀ (N:Nat){gr p:Nat}{o:Op}{rs:aq Nat}{H:MH},t.length-p<N->GW B s n cd it gi z gr t total o p rs H->eJ (l4 X.gc 6 λL=>X.gv L) z (N+1) gi H P:=λl=>by
 induction l with
 |zero=>
  intro _ _ _ _ _ G _
  exact ca G (Nat.not_lt_zero _)
 |succ N Z=>
  intro gr p o rs H G W
  refine aGw X (Lf.mk (aAw W.g) (gf2_i X ?_))
  have rn:=aK W.g (.gen .run)
  have d:∀ (r:Nat) (m:MO),gi≠r->H[r]? =ao m->(H.set gi (.gen .run))[r]? =ao m:=λr m q e=>aE e q
  have F:Hp B (H.set gi (.gen .run)):=W.hx.set O.bg
  have x:=d _ _ O.gc W.c
  have u:=d _ _ O.ig.symm W.i
  have b:=d _ _ O.ga W.a
  refine xEA W.e λgs I h=>?_
  have j:=I.to λr m _ q _ e=>d r m q e
  have K:=W.l
  have al:=O.al
  revert rn F x u b j
  generalize H.set gi (.gen .run)=H1
  refine λrn F x u b j=>(gf3_i X (aU _ _) (by decide) ⟨_,tM X O.ic (bB u).symm (bB x) (t.drop p) (cur:=[o.tl n]) (c5 _) rfl (aE (Hx.app _ _ _ _ x) (bB x)) (aE (Hx.app _ _ _ _ u) (bB u)) (aK (aU _ _) _) (rwL qo (rwL e8 (zzM1 0x897e8f69a0107d000724f68007 [t.length,p] ⋯ al))) ?_⟩)
  have f:∀ (r:Nat) (m:MO),H1[r]? =ao m->((H1++[MO.list []]).set H1.length (.list ([]++[(o.tl n).v])))[r]? =ao m:=λr m e=>aE (Hx.app _ _ _ _ e) (bB e)
  have J:=λr m e=>f r m (F r m e)
  have R:=F.fresh
  refine⟨λ{H' U p' g} e Y M D Q w=>?_,λ{H' lo g} e M D _=>?_,λ{H'} e D=>?_⟩
  ·refine⟨e _ _ O.ig (bB rn) (f _ _ rn),Lf.mk (c7 (aE (e _ _ O.ia (bB b) (f _ _ b)) O.ga)) ⟨by rw[bq];exact zzM4 0x555ec3283d07da0002aac01eb07da40007724f6a007a68007 [rs.length,p,t.length,p'] ⋯ K al Q w,Z (o:=U) (gr:=H1.length) (rs:=rs++[H1.length]) (zzM3 0xa4529522aa07dae8040028ac01eb07da4000707da8007da68040007 [t.length,p,N,p'] ⋯ G Q w) ⟨((e.hx J O.bi R).set O.bg).set O.ba,aE (aK (e _ _ O.ig (bB rn) (f _ _ rn)) _) O.ga.symm,aE (aE (e _ _ O.ic (bB x) (f _ _ x)) O.gc) O.ac,aE (aE Y O.ig.symm) O.ia.symm,rwL dv (aK (aE (e _ _ O.ia (bB b) (f _ _ b)) O.ga) _),?_,w,gs++[g],?_,?_⟩⟩⟩
   ·exact rwL bx (rwL e8 (zzM2 0x56a07da0002a07da40007a68007 [rs.length,p,p'] ⋯ K Q))
   ·exact GsA.snoc (j.to λr m A y E q=>aE (aE (e _ _ A (bB q) (f _ _ q)) y) E) (aE (aE M (bB rn).symm) (bB b).symm) (bB u).symm (bB rn).symm (bB b).symm
   ·rw[cz,<-h,D];rfl
  ·have T:=e _ _ O.ia (bB b) (f _ _ b)
   have S:=e _ _ O.ig (bB rn) (f _ _ rn)
   refine⟨S,Lf.mk (c7 (aE T O.ga)) ⟨by rw[bq];exact zzM3 0x557b0ca0f41f68000724f6a007aa9007a68007 [rs.length,p,t.length] ⋯ K W.pl al,wS X (aE (aK S _) O.ga.symm) (k (rs:=rs++[H1.length]) ((((e.hx J O.bi R).set O.bg).set O.ba).set O.bg) (rwL dv (aE (aK (aE T O.ga) _) O.ga)) ?_)⟩⟩
   ·exact rwR h (rwL D (GsA.snoc (j.to λr m A y E q=>aE (aE (aE (e _ _ A (bB q) (f _ _ q)) y) E) y) (aE (aE (aE M (bB rn).symm) (bB b).symm) (bB rn).symm) (bB u).symm (bB rn).symm (bB b).symm))
  ·refine⟨e _ _ O.ig (bB rn) (f _ _ rn),k ((e.hx J O.bi R).set O.bg) (aE (e _ _ O.ia (bB b) (f _ _ b)) O.ga) ?_⟩
   rw[<-h,D,c6]
   exact j.to λr m A y E q=>aE (e _ _ A (bB q) (f _ _ q)) y
def kP(s:Nat)(n:Int)(cd nn gr u1 u2 u3 u4 u5:bn V):Lo:=look [("self",ao (.ref s)),("n",ao (.int n)),("codes",cd),("nn",nn),("group",gr),("tag",u1),("i1",u2),("i2",u3),("j1",u4),("j2",u5)]
theorem kP_0:loB ["self","n"] [.ref s,.int n] lo0=kP s n none none none none none none none none:=by
 rw[<-fW [("self",none),("n",none),("codes",none),("nn",none),("group",none),("tag",none),("i1",none),("i2",none),("j1",none),("j2",none)] ⋯]
 show upd (upd (look _) "self" (.ref s)) "n" (.int n)=_
 rw[aD,aD];kernel_rfl
def pT:AF:=b3 5 (asC (aN "tag") (asC (aN "i1") (asC (aN "i2") (asC (aN "j1") (asC (aN "j2") asN)))))
theorem gp_1(R:SF):aB (aAz X) (aB (aAy X) R) (kP s n none none none u1 u2 u3 u4 u5) H K=((∃ a,H[s]? =ao (.inst a))/\bU X [.ref s] H λv H1=>R (upd (kP s n none none none u1 u2 u3 u4 u5) "codes" v) H1 K):=by kernel_rfl
def pA(R:SF):SF:=aB (cD (aY (esC (eN "tag") (esC (aI mU (esC (eN "i1") (esC (aA cP (eN "i2") (eN "n")) esN))) (esC (eN "i2") (esC (aI mU (esC (eN "j1") (esC (aA cP (eN "j2") (eN "n")) esN))) (esC (eN "j2") esN)))))) (jG (eN "codes") (eK (.int 0)))) R
def pZ(R:SF):SF:=aB (cD (aY (esC (eN "tag") (esC (eN "i1") (esC (aI qW (esC (eN "i2") (esC (aA aP (eN "i1") (eN "n")) esN))) (esC (eN "j1") (esC (aI qW (esC (eN "j2") (esC (aA aP (eN "j1") (eN "n")) esN))) esN)))))) (jG (eN "codes") (n9 (eK (.int 1))))) R
def kPX(s:Nat)(n:Int)(cd:Nat)(o:Op):Lo:=kP s n (ao (.ref cd)) none none (ao (.str o.tag.s)) (ao (.int o.i1)) (ao (.int o.i2)) (ao (.int o.j1)) (ao (.int o.j2))
theorem pT_i(q:R (kPX s n cd o) H):pT o.v (kP s n (ao (.ref cd)) none none u1 u2 u3 u4 u5) H R:=by
 refine kch (B:=(5=5/\R (upd (upd (upd (upd (upd (kP s n (ao (.ref cd)) none none u1 u2 u3 u4 u5) "tag" (.str o.tag.s)) "i1" (.int o.i1)) "i2" (.int o.i2)) "j1" (.int o.j1)) "j2" (.int o.j2)) H)) ⋯ ⟨rfl,?_⟩
 delta kP
 rw[aD,aD,aD,aD,aD]
 exact q
theorem pA_nf(R:SF):pA R (kPX s n cd o) H K=(5<100/\Lf (oSet (.ref cd) (.int 0) (o.tl n).v H) λH'=>R (kPX s n cd o) H' K):=by kernel_rfl
theorem pZ_nf(R:SF):pZ R (kPX s n cd o) H K=(5<100/\Lf (oSet (.ref cd) (.int (-1)) (o.hd n).v H) λH'=>R (kPX s n cd o) H' K):=by kernel_rfl
theorem gp_56:aB (tZ X) (aB (tY X) (sK .next)) (kP s n (ao (.ref cd)) none none u1 u2 u3 u4 u5) H K=K .next (upd (upd (kP s n (ao (.ref cd)) none none u1 u2 u3 u4 u5) "nn" (.int (n+n))) "group" (.ref H.length)) (H++[.list []]):=by kernel_rfl
theorem gp_56n:upd (upd (kP s n (ao (.ref cd)) none none u1 u2 u3 u4 u5) "nn" (.int (n+n))) "group" (.ref gr)=kL s n cd gr u1 u2 u3 u4 u5:=by
 unfold kP kL
 rw[aD,aD];kernel_rfl
theorem vM(n:Nat):jg (-1) (n+1)=ao n:=by
 unfold jg
 rw[cj (by decide:(-1:Int)<0)]
 exact rwL A211 (cj (by rw[bp (eO n),bp ((zzM0 0x6807da00101f68a04002 [n] ⋯):(n:Int)<((n+1:Nat):Int))];rfl))
theorem seq_0(n:Nat):jg 0 (n+1)=ao 0:=fS (Int.le_refl 0) (zzM0 0x1a01f6800407d03d002 [n] ⋯)
theorem qD(h:H[cd]? =ao (.list vs))(b: -1000000<i/\i<1000000)(e:jg i vs.length=ao j)(a:vs[j]? =ao v):aQ (.ref cd) (.int i) H=ao (v,H):=by
 show((lst H (.ref cd)).bind (at_ i)).map _=_
 rw[aG h]
 show(at_ i vs).map _=_
 delta at_
 rw[cj b,e]
 show(vs[j]?).map _=_
 rw[a];rfl
theorem xQ(h:H[cd]? =ao (.list vs))(b: -1000000<i/\i<1000000)(e:jg i vs.length=ao j):oSet (.ref cd) (.int i) v H=ao (H.set cd (.list (vs.set j v))):=by
 show H[cd]?.bind (setO H cd i v)=_
 rw[h]
 show(if-1000000<i/\i<1000000 then(jg i vs.length).map λj=>H.set cd (.list (vs.set j v)) else none)=_
 rw[cj b,e];rfl
theorem xM{o:Op}(q:Q (.str o.tag.s) H):Lp (aQ o.v (.int 0) H) Q:=Lp.mk rfl q
theorem aAs{g:Tg}{Q:cw->MH->Prop}(q:Q g.isEq H):Lp (bN id (.str g.s) (.str "equal") H) λe a=>Lf (tr e a) λt=>Q t a:=Lp.mk (by delta bN;rw[oV];rfl) (Lf.mk rfl q)
theorem sG(l:aq Op):rG n (o::l)=(bif o.tag.isEq then o.tl n else o)::l:=rfl
theorem gp3_i(h:H[cd]? =ao (.list ((o::l).map Op.v)))(k:∀ {H' u1 u2 u3 u4 u5},Ex H H' cd->H'[cd]? =ao (.list ((rG n (o::l)).map Op.v))->R (kP s n (ao (.ref cd)) none none u1 u2 u3 u4 u5) H' K):aB (oP X) R (kP s n (ao (.ref cd)) none none u1 u2 u3 u4 u5) H K:=by
 have b0: -1000000<(0:Int)/\(0:Int)<1000000:=by decide
 have ix:=seq_0 (l.map Op.v).length
 refine kch ((by intro X R;kernel_rfl:∀(X:XX C)(R:SF),aB (oP X) R (kP s n (ao (.ref cd)) none none u1 u2 u3 u4 u5) H K=(Lp (aQ (.ref cd) (.int 0) H) λv H1=>Lp (aQ v (.int 0) H1) λw H2=>Lp (bN id w (.str "equal") H2) λe H3=>Lf (tr e H3) λt=> bif t then(Lp (aQ (.ref cd) (.int 0) H3) λv H4=>pT v (kP s n (ao (.ref cd)) none none u1 u2 u3 u4 u5) H4 λlo1 H5=>pA (sK .next) lo1 H5 (bM R K)) else R (kP s n (ao (.ref cd)) none none u1 u2 u3 u4 u5) H3 K)) X R) (Lp.mk (qD h b0 ix rfl) (xM (aAs ?_)))
 rw[sG]at k
 cases e:o.tag.isEq with
 |false=>rw[e]at k;exact bC (k (λa a a q=>q) h)
 |true=>
  rw[e]at k
  exact bH (Lp.mk (qD h b0 ix rfl) (pT_i (kch (pA_nf (sK .next)) ⟨by decide,Lf.mk (xQ h b0 ix) (k .set (aK h _))⟩)))
theorem sF:∀ l:aq Op,gE n (l++[o])=l++[bif o.tag.isEq then o.hd n else o]
 | []=>rfl
 | [x]=>rfl
 |x::y::l=>by
  show x::gE n (y::l++[o])=_
  rw[sF (y::l)];rfl
theorem gp4_i(h:H[cd]? =ao (.list ((l++[o]).map Op.v)))(k:∀ {H' u1 u2 u3 u4 u5},Ex H H' cd->H'[cd]? =ao (.list ((gE n (l++[o])).map Op.v))->R (kP s n (ao (.ref cd)) none none u1 u2 u3 u4 u5) H' K):aB (oO X) R (kP s n (ao (.ref cd)) none none u1 u2 u3 u4 u5) H K:=by
 have b0: -1000000<(-1:Int)/\(-1:Int)<1000000:=by decide
 rw[dv]at h
 have ix:jg (-1) (l.map Op.v++[o].map Op.v).length=ao (l.map Op.v).length:=by exact rwL bx (vM _)
 have e1:=qD h b0 ix (by rw[gO (c5 _),ox];rfl)
 refine kch ((by intro X R;kernel_rfl:∀(X:XX C)(R:SF),aB (oO X) R (kP s n (ao (.ref cd)) none none u1 u2 u3 u4 u5) H K=(Lp (aQ (.ref cd) (.int (-1)) H) λv H1=>Lp (aQ v (.int 0) H1) λw H2=>Lp (bN id w (.str "equal") H2) λe H3=>Lf (tr e H3) λt=> bif t then(Lp (aQ (.ref cd) (.int (-1)) H3) λv H4=>pT v (kP s n (ao (.ref cd)) none none u1 u2 u3 u4 u5) H4 λlo1 H5=>pZ (sK .next) lo1 H5 (bM R K)) else R (kP s n (ao (.ref cd)) none none u1 u2 u3 u4 u5) H3 K)) X R) (Lp.mk e1 (xM (aAs ?_)))
 rw[sF]at k
 cases e:o.tag.isEq with
 |false=>rw[e,dv]at k;exact bC (k (λa a a q=>q) h)
 |true=>
  rw[e,dv]at k
  refine bH (Lp.mk e1 (pT_i (kch (pZ_nf (sK .next)) ⟨by decide,Lf.mk (xQ h b0 ix) (k .set ?_)⟩)))
  have:=aK h (.list ((l.map Op.v++[o].map Op.v).set (l.map Op.v).length (o.hd n).v))
  rw[List.set_append_right _ _ (c5 _),ox]at this ⊢
  exact this
theorem gp2_i(h:H[cd]? =ao (.list (l.map Op.v)))(b:l.length<1000000)(k:∀ {H' a},Hx H H'->H'[a]? =ao (.list ((gX l).map Op.v))->(l≠ []/\a=cd)\/(l= []/\a=H.length)->R (kP s n (ao (.ref a)) none none u1 u2 u3 u4 u5) H' K):aB (oQ X) R (kP s n (ao (.ref cd)) none none u1 u2 u3 u4 u5) H K:=by
 refine kch ((by intro X R;kernel_rfl:∀(X:XX C)(R:SF),aB (oQ X) R (kP s n (ao (.ref cd)) none none u1 u2 u3 u4 u5) H K=(Lf (tr (.ref cd) H) λt=>bif !t then(5<100/\R (upd (kP s n (ao (.ref cd)) none none u1 u2 u3 u4 u5) "codes" (.ref H.length)) (H++[.list [Op.v ⟨.eq,0,1,0,1⟩]]) K) else R (kP s n (ao (.ref cd)) none none u1 u2 u3 u4 u5) H K)) X R) (Lf.mk (sT h (by rw[bq];exact b)) ?_)
 cases l with
 |nil=>
  refine bH ⟨by decide,?_⟩
  unfold kP at k ⊢
  rw[aD]
  exact k (.app _ _) (aU _ _) (.inr ⟨rfl,rfl⟩)
 |cons o l=>exact bC (k (.refl _) h (.inl ⟨nofun,rfl⟩))
theorem nO(l:aq Op):∃ o l',gX l=o::l':=by
 cases l with
 |nil=>exact⟨_,_,rfl⟩
 |cons o l=>exact⟨o,l,rfl⟩
theorem yZ(l:aq Op):(gX l).length<=l.length+1:=by
 cases l with
 |nil=>exact c5 1
 |cons o l=>exact uP _
theorem gp34_i(h:H[cd]? =ao (.list ((gX l).map Op.v)))(k:∀ {H' u1 u2 u3 u4 u5},Ex H H' cd->H'[cd]? =ao (.list ((gE n (rG n (gX l))).map Op.v))->K .next (kL s n cd H'.length u1 u2 u3 u4 u5) (H'++[.list []])):gR3 X (kP s n (ao (.ref cd)) none none u1 u2 u3 u4 u5) H K:=by
 refine xEE (nO l) λo l' e=>xEE ((by
  intro n l
  refine xEE (nO l) λo l' e=>?_
  rw[e,sG]
  rcases List.eq_nil_or_concat ((bif o.tag.isEq then o.tl n else o)::l') with h |⟨L,x,h⟩
  ·cases h
  ·exact⟨L,x,by rw[h,List.concat_eq_append]⟩:∀(n:Int)(l:aq Op),∃ L o,rG n (gX l)=L++[o]) n l) λL x b=>gp3_i X (rwR e h) λ{H1 u1 u2 u3 u4 u5} c a=>?_
 rw[<-e,b]at a
 exact gp4_i X a λ{g u1 u2 u3 u4 u5} f d=>kch (gp_56 X) (rwL gp_56n (k (c.trans f) (rwL b d)))
theorem Ops.len(h:Ops a b l)(al:a.length<64):l.length<=200:=(by
 refine xEA h λbl c g=>xEA c λr f d=>?_
 have e:=zY bl 0 0
 rw[d,bx,e8,<-d]at e
 exact rwL g (A309 ((λr h=>ec h.len al) r f) (((b5 T3.i r).length_eq)▸(oJ (isort T3.i r) ⟨0,0,0⟩)) (c5 _) e))
theorem aGl(n:Int)(l:aq Op):(rG n l).length=l.length:=by cases l<;>rfl
theorem wI(n:Int):∀ l:aq Op,(gE n l).length=l.length
 | []=>rfl
 | [x]=>rfl
 |x::y::l=>by
  show(x::gE n (y::l)).length=_
  rw[e6,wI n (y::l)];rfl
def fixC(n:Int):aq Op->aq Op
 | []=>[]
 |o::l=>gE n (rG n (o::l))
structure Rdy(X:XX C)(B H:MH)(s:Nat)(W:aq Op):Prop where
 bs:B[s]? =none
 hx:Hx B H
 o:∃ ff,H[s]? =ao (.inst ff)
 op:∀ {H1:MH}{Q:EK},Hx H H1->(∀ {H2 fs oc},Ex H1 H2 s->H2[s]? =ao (.inst fs)->fs "opcodes" =ao (.ref oc)->H2[oc]? =ao (.list (W.map Op.v))->B[oc]? =none->(∀ g,H[g]? =none->(∃ m,H1[g]? =ao m)->g≠oc)->Q (.ref oc) H2)->bU X [.ref s] H1 Q
theorem Hx.no{r:Nat}(x:Hx B H)(h:H[r]? =none):B[r]? =none:=by
 cases c:B[r]? with
 |none=>rfl
 |some m=>exact aM (h.symm.trans (x _ _ c))
theorem Rdy.kept(bs:B[s]? =none)(g:Hx B H)(b:H[s]? =ao (.inst fs))(c:fs "opcodes" =ao (.ref oc))(d:H[oc]? =ao (.list (W.map Op.v)))(h:B[oc]? =none):Rdy X B H s W:=⟨bs,g,⟨_,b⟩,λ{H1 Q} a k=>kch (z0 X) ⟨rfl,At.mk (a _ _ b) c (Lp.mk rfl (Lf.mk rfl (bH (At.mk (a _ _ b) c (k (λi i i e=>e) (a _ _ b) c (a _ _ d) h λg f i q=>aM (f.symm.trans (q▸d)))))))⟩⟩
theorem Rdy.new{rd:Nat}(S:SM H s ra rb rd j m fs f a b)(t:fs "matching_blocks" =ao .none)(g:fs "opcodes" =ao .none)(al:a.length<200)(rl:∀ r,Run a b [⟨0,a.length,0,b.length⟩] [] r->r.length<64)(c:Hx B H)(bs:B[s]? =none)(i:∀ l,Ops a b l->l=W):Rdy X B H s W:=⟨bs,c,⟨_,S.o⟩,λ{H1 Q} d k=>pW X (S.hx d) t g al rl λ{u r l} p v e n O=>by
  exact k p e ⋯ (rwR (i l O) n) (c.no (d.no (aH H1))) λg w h q=>h.elim λm h=>aM ((aH H1).symm.trans (q▸h))⟩
def rX(H:MH)(i j:Nat):Nat->bn MO:=λr=>if r=i\/r=j then none else H[r]?
theorem but2_i:rX H i j i=none:=cj (.inl rfl)
theorem but2_j:rX H i j j=none:=cj (.inr rfl)
theorem aKt:Hp (rX H i j) H:=λr m e=>by
 unfold rX at e
 split at e
 ·exact aM e
 ·exact e
theorem Hp.b2(h:Hp (rX H i j) H')(e:H[r]? =ao m)(n1:i≠r)(a:j≠r):H'[r]? =ao m:=h _ _ ((cc λq=>q.elim (λq=>n1 q.symm) λq=>a q.symm).trans e)
theorem yO(D:Rdy X B H s W)(ll:W.length<=200)(k:∀ {H' rs it},Rdy X B H' s (fixC n W)->H'[(H++[MO.gen (.fresh (loB ["self","n"] [.ref s,.int n] lo0))]).length]? =ao (.list (rs.map V.ref))->GsA H' it H.length (H++[MO.gen (.fresh (loB ["self","n"] [.ref s,.int n] lo0))]).length rs (groups n W)->P H'):eJ (l4 X.gc 6 λL=>X.gv L) (H++[MO.gen (.fresh (loB ["self","n"] [.ref s,.int n] lo0))]).length 2001 H.length ((H++[MO.gen (.fresh (loB ["self","n"] [.ref s,.int n] lo0))])++[.list []]) P:=by
 refine aGw X (Lf.mk (aAw (Hx.app _ _ _ _ (aU H (.gen (.fresh (loB ["self","n"] [.ref s,.int n] lo0)))))) ?_)
 show aGg X (loB ["self","n"] [.ref s,.int n] lo0) _ _
 refine rwL kP_0 ?_
 have f:H.length≠(H++[MO.gen (.fresh (kP s n none none none none none none none none))]).length:=by exact rwL bx ((qu _).symm)
 have G:=((Hx.app H [MO.gen (.fresh (kP s n none none none none none none none none))])).fresh
 rw[kP_0]at k
 have F:Hx H (((H++[MO.gen (.fresh (kP s n none none none none none none none none))])++[MO.list []]).set H.length (.gen .run)):=((Hx.app _ _).trans (.app _ _)).set (aH H)
 have rr:(((H++[MO.gen (.fresh (kP s n none none none none none none none none))])++[MO.list []]).set H.length (.gen .run))[H.length]? =ao (.gen .run):=aK (Hx.app _ _ _ _ (aU _ _)) _
 have ra:(((H++[MO.gen (.fresh (kP s n none none none none none none none none))])++[MO.list []]).set H.length (.gen .run))[(H++[MO.gen (.fresh (kP s n none none none none none none none none))]).length]? =ao (.list []):=aE (aU _ _) f
 refine xE D.o λff so=>?_
 have T:=bB so
 have I:(H++[MO.gen (.fresh (kP s n none none none none none none none none))]).length≠s:=bB (Hx.app _ _ _ _ so)
 have r:=aH H
 revert f G F rr ra I k r T
 generalize (H++[MO.gen (.fresh (kP s n none none none none none none none none))]).length=c
 generalize ((H++[MO.gen (.fresh (kP s n none none none none none none none none))])++[MO.list []]).set H.length (.gen .run)=Hr
 generalize H.length=gi
 intro k f G F rr ra T I r
 have y:=D.hx.no r
 have R:=D.hx.no G
 refine kch (gp_1 X _) ⟨⟨_,F _ _ so⟩,D.op F λ{H2 fs oc} Y s2 hf N bo ng=>?_⟩
 have x2:=Y.hx (D.hx.trans F) D.bs
 have r2:=Y _ _ T.symm rr
 delta kP
 rw[aD]
 refine gp2_i X N (zzM1 0x57b0ca0f41f680001a8f68007 [W.length] ⋯ ll) λ{H3 t} E h3 aa=>gp34_i X h3 λ{a u1 u2 u3 u4 u5} O h4=>?_
 have ae:t≠s:=λq=>by
  subst q
  exact ca (h3.symm.trans (E _ _ s2)) nofun
 have u:gi≠t/\c≠t/\B[t]? =none/\a[oc]? =ao (.list ((fixC n W).map Op.v)):=by
  rcases aa with ⟨ne,rfl⟩ |⟨e,rfl⟩
  ·refine⟨(ng gi r ⟨_,rr⟩),(ng c G ⟨_,ra⟩),bo,?_⟩
   cases W with
   |nil=>exact ca rfl ne
   |cons o l=>exact h4
  ·refine⟨(bB r2).symm,(bB (Y _ _ I.symm ra)).symm,x2.fresh,?_⟩
   subst e
   exact O _ _ (bB N) (E _ _ N)
 refine xAA u λgc ac u=>xA u λbc af=>?_
 have r4:=O _ _ gc.symm (E _ _ r2)
 have a4:=O _ _ ac.symm (E _ _ (Y _ _ I.symm ra))
 have K:∀ {H' rs it},Hp (rX a gi c) H'->H'[c]? =ao (.list (rs.map V.ref))->GsA H' it gi c rs (groups n W)->P H':=λ{H' rs it} h h1 N=>
  k (.kept X D.bs (λr m e=>h.b2 ((O.hx (x2.trans E) bc) _ _ e) (λq=>aM (y.symm.trans (q▸e))) λq=>aM (R.symm.trans (q▸e))) (h.b2 (O _ _ ae (E _ _ s2)) T I) hf (h.b2 af (ng gi r ⟨_,rr⟩) (ng c G ⟨_,ra⟩)) bo) h1 N
 have Z:Hp (rX a gi c) a:=aKt
 have ad:rX a gi c gi=none:=but2_i
 have ah:rX a gi c c=none:=but2_j
 revert K Z ad ah
 generalize rX a gi c=B'
 intro k Z y R
 have i:(gE n (rG n (gX W))).length<=201:=by rw[wI,aGl];exact Nat.le_trans (yZ W) (eH ll)
 have A:=Hx.app a [MO.list []] _ _ h4
 have z:=aU a (.list [])
 have w:=Hx.app a [MO.list []] _ _ r4
 have x:=Hx.app a [MO.list []] _ _ a4
 have S:Hp B' (a++[MO.list []]):=Z.hx (.app _ _)
 have M:=Z.fresh
 have U:=bB h4
 have rg:=bB r4
 have j:=bB a4
 refine kch (B:=((∃ vs,lst (a++[MO.list []]) (.ref t)=ao vs)/\(gfn X).loop (a++[MO.list []]).length (kL s n t a.length u1 u2 u3 u4 u5) ((a++[MO.list []])++[.itr (ao (t,0))]) (GFn.finK gi (exK X c gi 2000 P)))) ⋯ ⟨⟨_,aG A⟩,?_⟩
 revert A z w x S M U rg j
 generalize a.length=gr
 generalize a++[MO.list []]=J
 intro A z w x S M U rg j
 have b:GO B' t J.length gi c (gE n (rG n (gX W))):=⟨S.fresh,y,R,bB A,bB w,bB x,gc,f,ac,Nat.le_trans i (by decide)⟩
 have d:Hx J (J++[MO.itr (ao (t,0))]):=.app _ _
 have x6:=S.hx d
 refine⟨_,tM X b.ic (bB z) U (gE n (rG n (gX W))) (cur:=[]) (c5 _) rfl (d _ _ A) (aU _ _) (d _ _ z) (by exact rwL ly (zzM1 0x57e8f6803d0001a9f68007 [(gE n (rG n (gX W))).length] ⋯ i)) ⟨λ{H' o' p' g} e hi r Q h0 aj=>⟨(e _ _ b.ig rg (d _ _ w)),Lf.mk (c7 (aE (e _ _ b.ia j (d _ _ x)) f)) ⟨by decide,aAx (s:=s) (n:=n) X b (λq1 q2 q3=>k q1 q2 q3) 1999 (p:=p') (o:=o') (gr:=gr) (rs:=[gr]) (zzM1 0x2241faff41f69a010001a9f68007 [(gE n (rG n (gX W))).length,p'] ⋯ i) ⟨((e.hx x6 b.bi M).set y).set R,aE (aK (e _ _ b.ig rg (d _ _ w)) _) f.symm,aE (aE (e _ _ b.ic U (d _ _ A)) gc) ac,aE (aE hi b.ig.symm) b.ia.symm,aK (aE (e _ _ b.ia j (d _ _ x)) f) _,h0,aj,[g],.cons (aE (aE r rg.symm) j.symm) (bB z) rg.symm j.symm .nil,Q.symm⟩⟩⟩,λ{H' lo g} e r Q _=>?_,λ{H'} e Q=>?_⟩⟩
 ·have a':=e _ _ b.ia j (d _ _ x)
  have r':=e _ _ b.ig rg (d _ _ w)
  exact⟨r',Lf.mk (c7 (aE a' f)) ⟨by decide,wS X (aE (aK r' _) f.symm) (k (rs:=[gr]) (it:=J.length) ((((e.hx x6 b.bi M).set y).set R).set y) (aE (aK (aE a' f) _) f) (rwL (show groups n W= [g] from Q) (.cons (aE (aE (aE r rg.symm) j.symm) rg.symm) (bB z) rg.symm j.symm .nil)))⟩⟩
 ·exact⟨(e _ _ b.ig rg (d _ _ w)),k (rs:=[]) (it:=J.length) ((e.hx x6 b.bi M).set y) (aE (e _ _ b.ia j (d _ _ x)) f) (rwL (show groups n W= [] from Q) .nil)⟩
theorem at_rdy(D:Rdy X B H s W)(c:W.length<=200)(k:∀ {H' r rs it gi},Rdy X B H' s (fixC n W)->H'[r]? =ao (.list (rs.map V.ref))->GsA H' it gi r rs (groups n W)->Q (.ref r) H'):mV (l4 X.gc 6 λL=>X.gv L) (λi=>i) [.ref H.length] (H++[MO.gen (.fresh (loB ["self","n"] [.ref s,.int n] lo0))]) Q:=by
 have e:isG (H++[MO.gen (.fresh (loB ["self","n"] [.ref s,.int n] lo0))]) [.ref H.length]=ao H.length:=by
  show((H++[MO.gen (.fresh (loB ["self","n"] [.ref s,.int n] lo0))])[H.length]?.bind MO.gn).map _=_
  rw[(aAw (aU H (.gen (.fresh (loB ["self","n"] [.ref s,.int n] lo0)))))];rfl
 delta mV
 exact rwL e ⟨_,(yO X D c λq1 b a=>k q1 b a)⟩
def eqO(i j k:Int):Op:=⟨.eq,i,i+k,j,j+k⟩
def chO(g:Tg)(i j i' j':Int):Op:=⟨g,i,i',j,j'⟩
class inductive Gk(n:Int)(a b:aq Int):aq Op->Int->Int->aq Op->aq (aq Op)->Prop
 |e0 {cur:aq Op}:Gk n a b cur a.length b.length [] [cur]
 |e1 {cur:aq Op}{i j k:Int} (p:0<k) (m:Mt a b i j k) (ei:i+k=a.length) (ej:j+k=b.length):Gk n a b cur i j [eqO i j k] [cur++[(eqO i j k).hd n]]
 |join {cur:aq Op}{i j k i' j':Int}{g:Tg}{rest:aq Op}{gs:aq (aq Op)} (p:0<k) (hk:k<=n+n) (m:Mt a b i j k) (hg:g.isEq=aL) (hi:i+k<=i') (hj:j+k<=j')
   (h:Gk n a b (cur++[eqO i j k,chO g (i+k) (j+k) i' j']) i' j' rest gs):Gk n a b cur i j (eqO i j k::chO g (i+k) (j+k) i' j'::rest) gs
 |cut {cur:aq Op}{i j k i' j':Int}{g:Tg}{rest:aq Op}{gs:aq (aq Op)} (p:0<k) (hk:n+n<k) (m:Mt a b i j k) (hg:g.isEq=aL) (hi:i+k<=i') (hj:j+k<=j')
   (h:Gk n a b [(eqO i j k).tl n,chO g (i+k) (j+k) i' j'] i' j' rest gs):Gk n a b cur i j (eqO i j k::chO g (i+k) (j+k) i' j'::rest) ((cur++[(eqO i j k).hd n])::gs)
theorem tG{g:Tg}(h:g≠ .eq):g.isEq=aL:=by
 cases g with
 |eq=>exact ca rfl h
 |_=>rfl
theorem oU(h:o.tag.isEq=aL):∀ l:aq Op,gE n (o::l)=o::gE n l
 | []=>by
  show [bif o.tag.isEq then o.hd n else o]= [o]
  rw[h];rfl
 |x::l=>rfl
theorem l5(h:o.tag.isEq=aL)(cur l:aq Op):grps n cur (o::l)=grps n (cur++[o]) l:=by
 have:rY n o=aL:=by delta rY;rw[h];rfl
 rw[jV,this];rfl
theorem aJw(cur:aq Op)(x y:Op)(l:aq Op):kW (cur++(x::y::l))=be:=by
 cases cur with
 |nil=>rfl
 |cons z t=>cases t<;>rfl
theorem yK(h:kW cur=be)(x:Op):kW (cur++[x])=be:=by
 cases cur with
 |nil=>cases h
 |cons z t=>cases t<;>rfl
theorem zA{o:Op}(n0:0<=n):rY n (o.hd n)=aL:=by
 have: ¬(min o.i2 (o.i1+n)-o.i1>n+n):=by
  exact zzI1 0xaa68aa8a80a43041f68a0000212803d087 [n,o.i2,o.i1] ⋯ n0
 show(o.tag.isEq && decide (min o.i2 (o.i1+n)-o.i1>n+n))=aL
 rw[bw this,Bool.and_false]
theorem Cod.end(h:Cod a b f i j l)(e:l= []):i=a.length/\j=b.length:=by
 cases h with
 |nil=>exact⟨rfl,rfl⟩
 |eq=>cases e
 |ch=>cases e
inductive CoI(a b:aq Int)(f:bn cw)(i j:Int):Op->aq Op->Prop
 |eq {k:Int}{l:aq Op} (hf:f≠ao be) (p:0<k) (m:Mt a b i j k) (h:Cod a b (ao be) (i+k) (j+k) l):CoI a b f i j (eqO i j k) l
 |ch {i' j':Int}{g:Tg}{l:aq Op} (hf:f≠ao aL) (hg:g.isEq=aL) (hi:i<=i') (hj:j<=j') (h:Cod a b (ao aL) i' j' l):CoI a b f i j (chO g i j i' j') l
theorem Cod.inv(h:Cod a b f i j (o::l)):CoI a b f i j o l:=by
 generalize e:o::l=L at h
 cases h with
 |nil=>cases e
 |eq c p m h=>cases e;exact .eq c p m h
 |ch c g d k n h=>cases e;exact .ch c (tG g) d k h
theorem Gk.of(n0:0<=n):∀ {d:aq Op}{cur:aq Op}{i j:Int},Cod a b (ao aL) i j d->kW cur=be->Gk n a b cur i j d (grps n cur (gE n d))
 | [],cur,i,j,h,r=>by
  refine xA (h.end rfl) λz186 l=>?_;subst z186;subst l
  exact(rwL r .e0:Gk n a b cur _ _ [] (bif kW cur then [cur] else []))
 | [o],cur,i,j,h,r=>by
  cases h.inv with
  |ch e=>exact ca rfl e
  | @eq k _ e p m h=>
   show Gk n a b cur i j [eqO i j k] (grps n cur [(eqO i j k).hd n])
   rw[jV,zA n0]
   show Gk n a b cur i j [eqO i j k] (bif kW (cur++[(eqO i j k).hd n]) then [cur++[(eqO i j k).hd n]] else [])
   rw[yK r]
   exact .e1 p m (h.end rfl).1 (h.end rfl).2
 |o::c::d,cur,i,j,h,r=>by
  cases h.inv with
  |ch e=>exact ca rfl e
  | @eq k _ e p m h=>
   cases h.inv with
   |eq e=>exact ca rfl e
   | @ch u s g _ e f t v h=>
   show Gk n a b cur i j (eqO i j k::chO g (i+k) (j+k) u s::d) (grps n cur (eqO i j k::gE n (chO g (i+k) (j+k) u s::d)))
   rw[jV,(by
    intro i j k
    show decide (i+k-i>n+n)=_
    rw[show i+k-i=k from (zzI0 0x169a29a00043 [i,k] ⋯)]:∀{i j k:Int},rY n (eqO i j k)=decide (n+n<k)),oU f,l5 f,l5 f]
   by_cases q:n+n<k
   ·exact rwL (bp q) (.cut p q m f t v (Gk.of n0 h rfl))
   ·refine rwL (bw q) (.join p (lr.mp q) m f t v ?_)
    rw[ik,cz]
    exact Gk.of n0 h (aJw _ _ _ _)
inductive Gp(n:Int)(a b:aq Int):aq Op->aq (aq Op)->Prop
 |no {l:aq Op} (h:l= []\/∃ k,l= [eqO 0 0 k]) (e:a=b):Gp n a b l []
 |ch {g:Tg}{i j:Int}{rest:aq Op}{gs:aq (aq Op)} (hg:g.isEq=aL) (hi:0<=i) (hj:0<=j) (h:Gk n a b [chO g 0 0 i j] i j rest gs):Gp n a b (chO g 0 0 i j::rest) gs
 |eq {g:Tg}{k i j:Int}{rest:aq Op}{gs:aq (aq Op)} (p:0<k) (m:Mt a b 0 0 k) (hg:g.isEq=aL) (hi:k<=i) (hj:k<=j) (h:Gk n a b [(eqO 0 0 k).tl n,chO g k k i j] i j rest gs):Gp n a b (eqO 0 0 k::chO g k k i j::rest) gs
theorem len0{l:aq Int}{z:Int}(h:z=0)(e:z=l.length):l= []:=List.eq_nil_of_length_eq_zero (A216 h e)
theorem Gp.of(n0:0<=n):∀ {l:aq Op},Cod a b none 0 0 l->Gp n a b l (groups n l)
 | [],h=>by
  have e:groups n []= []:=by
   show grps n [] [((eqO 0 0 1).tl n).hd n]= []
   rw[jV,zA n0];rfl
  exact rwL e (xA (h.end rfl) λh1 q=>.no (.inl rfl) ((len0 rfl h1).trans (len0 rfl q).symm))
 | [o],h=>by
  cases h.inv with
  | @ch i j g _ r f u s h=>
   have e:groups n [chO g 0 0 i j]=grps n [chO g 0 0 i j] (gE n []):=by
    show grps n [] (gE n ((bif g.isEq then _ else chO g 0 0 i j)::[]))=_
    rw[f,ik,oU f,l5 f];rfl
   exact rwL e (.ch f u s (Gk.of n0 h (by show(!g.isEq)=be;rw[f];rfl)))
  | @eq k _ r p m h=>
   have e:groups n [eqO 0 0 k]= []:=by
    show grps n [] [((eqO 0 0 k).tl n).hd n]= []
    rw[jV,zA n0];rfl
   refine rwL e (xA (h.end rfl) λh1 q=>?_)
   rw[me]at h1 q
   exact .no (.inr ⟨k,rfl⟩) ((by
    intro k m w v
    refine ql (A217 w v) λt h1 q=>?_
    have:=m t (eO t) (A218 v q)
    unfold av at this
    rw[me,fo,c4,c4,cg h1,cg q]at this
    exact this:∀{k:Int}(m:Mt a b 0 0 k)(w:k=a.length)(v:k=b.length),a=b) m h1 q)
 |o::c::d,h=>by
  cases h.inv with
  | @ch i j g _ r f u s h=>
   have e:groups n (chO g 0 0 i j::c::d)=grps n [chO g 0 0 i j] (gE n (c::d)):=by
    show grps n [] (gE n ((bif g.isEq then _ else chO g 0 0 i j)::c::d))=_
    rw[f,ik,oU f,l5 f];rfl
   exact rwL e (.ch f u s (Gk.of n0 h (by show(!g.isEq)=be;rw[f];rfl)))
  | @eq k _ r p m h=>
   rw[me]at h
   cases h.inv with
   |eq r=>exact ca rfl r
   | @ch i j g _ r f u s h=>
   have e:groups n (eqO 0 0 k::chO g k k i j::d)=grps n [(eqO 0 0 k).tl n,chO g k k i j] (gE n d):=by
    show grps n [] ((eqO 0 0 k).tl n::gE n (chO g k k i j::d))=_
    rw[jV,(by
     intro o n0
     have: ¬(o.i2-max o.i1 (o.i2-n)>n+n):=by
      exact zzI1 0x9568a2906a0a9041f68a0000212803d087 [n,o.i2,o.i1] ⋯ n0
     show(o.tag.isEq && decide (o.i2-max o.i1 (o.i2-n)>n+n))=aL
     rw[bw this,Bool.and_false]:∀{o:Op}(n0:0<=n),rY n (o.tl n)=aL) n0,oU f,ik,l5 f];rfl
   exact rwL e (.eq p m f u s (Gk.of n0 h rfl))
def chg(l:aq Op):aq Op:=l.filter λo=> !o.tag.isEq
theorem bT(l m:aq Op):chg (l++m)=chg l++chg m:=jw ..
theorem iN(h:o.tag.isEq=aL)(l:aq Op):chg (o::l)=o::chg l:=List.filter_cons_of_pos (by rw[h];rfl)
theorem cX(h:o.tag.isEq=be)(l:aq Op):chg (o::l)=chg l:=List.filter_cons_of_neg (by rw[h];nofun)
theorem aHi{b a:Int}(o:Op)(c:o.tag.isEq=be)(d:g.isEq=aL)(l:aq Op):chg [o,chO g i j b a]++chg l=chO g i j b a::chg l:=by
 rw[cX c,iN d];rfl
theorem eX{b a:Int}(c:g.isEq=aL)(l:aq Op):chg (chO g i j b a::l)=chO g i j b a::chg l:=iN c l
theorem lK{b a:Int}(c:g.isEq=aL)(l:aq Op):chg (eqO i j k::chO g x y b a::l)=chO g x y b a::chg l:=(cX rfl _).trans (eX c l)
theorem Gk.flat(h:Gk n a b cur i j c e):chg e.flatten=chg cur++chg c:=by
 induction h with
 |e0=>exact rwL mo ((c6 _).symm)
 |e1=>rw[mo,bT];rfl
 |join p q m d o l h f=>rw[f,bT,cz,aHi (eqO _ _ _) rfl d,lK d]
 | @cut cur i j k r s g c e p q m d o l h f=>
  rw[jq,bT,f,bT,cz,aHi ((eqO _ _ _).tl n) rfl d,lK d];rfl
theorem Gp.flat(h:Gp n a b l d):chg d.flatten=chg l:=by
 cases h with
 |no h e=>rcases h with rfl |⟨k,rfl⟩<;>rfl
 |ch c f g h=>rw[h.flat,<-bT];rfl
 |eq p m c f g h=>rw[h.flat,aHi ((eqO _ _ _).tl n) rfl c,lK c]
def zz:aq Op->Nat
 | []=>0
 | [o]=>bif o.tag.isEq then 1 else 0
 |_::l=>zz l
theorem mW:∀ (l:aq Op),l≠ []->(chg (l.drop (l.length-1))).length+zz l=1
 | [],h=>ca rfl h
 | [o],_=>by
  show(chg [o]).length+(bif o.tag.isEq then 1 else 0)=1
  cases e:o.tag.isEq with
  |true=>rw[cX e];rfl
  |false=>rw[iN e];rfl
 |o::p::l,_=>mW (p::l) nofun
def s1:aq Op->Int | []=>0 |o::_=>o.i1
def s2:aq Op->Int | []=>0 | [o]=>o.i2 |_::l=>s2 l
def t1:aq Op->Int | []=>0 |o::_=>o.j1
def t2:aq Op->Int | []=>0 | [o]=>o.j2 |_::l=>t2 l
theorem lR(o:Op):∀ l:aq Op,s2 (l++[o])=o.i2
 | []=>rfl
 | [x]=>rfl
 |x::y::l=>lR o (y::l)
theorem zN(o:Op):∀ l:aq Op,t2 (l++[o])=o.j2
 | []=>rfl
 | [x]=>rfl
 |x::y::l=>zN o (y::l)
theorem xV(h:l≠ [])(m:aq Op):s1 (l++m)=s1 l:=by cases l with |nil=>exact ca rfl h |cons=>rfl
def rc(n z lo hi:Int):aq (Int×Int)->aq (Int×Int)
 | []=>[(lo,hi)]
 |p::r=>bif decide (max 0 (p.1-n)<=hi) then rc n z lo (min z (p.2+n)) r else(lo,hi)::rc n z (max 0 (p.1-n)) (min z (p.2+n)) r
theorem rc_c(n z lo a:Int)(p:Int×Int)(r:aq (Int×Int)):rc n z lo a (p::r)=bif decide (max 0 (p.1-n)<=a) then rc n z lo (min z (p.2+n)) r else(lo,a)::rc n z (max 0 (p.1-n)) (min z (p.2+n)) r:=rfl
def reach(n z:Int):aq (Int×Int)->aq (Int×Int)
 | []=>[]
 |p::r=>rc n z (max 0 (p.1-n)) (min z (p.2+n)) r
def pI(o:Op):Int×Int:=(o.i1,o.i2)
def sI(g:aq Op):Int×Int:=(s1 g,s2 g)
theorem Gk.bd(h:Gk n a b cur i j c l):i<=a.length/\j<=b.length:=by
 induction h with
 |e0=>exact⟨Int.le_refl _,Int.le_refl _⟩
 |e1 p m g q=>exact⟨A224 p g,A224 p q⟩
 |join p k m o e f h d=>exact⟨A225 p e d,A226 p f d⟩
 |cut p k m o e f h d=>exact⟨A225 p e d,A226 p f d⟩
theorem aIu{x lo:Int}(b:0<=i)(n0:0<=n)(c:k<=n+n)(k0:0<=k)(a:i+k<=z):rc n z lo (min z (i+n)) ((i+k,y)::r)=rc n z lo (min z (y+n)) r:=by
 rw[rc_c,bp,f4]
 exact vJ.mpr ⟨le_min.mpr ⟨dt (px b k0) a,px b n0⟩,le_min.mpr ⟨dt (Int.sub_le_self _ n0) a,Int.sub_right_le_of_le_add (kz i n n▸kx c i)⟩⟩
theorem Gk.rcI(n0:0<=n)(h:Gk n a b cur i j c q):cur≠ []->0<=i->s2 cur=i->q.map sI=rc n a.length (s1 cur) (min a.length (i+n)) ((chg c).map pI):=by
 induction h with
 | @e0 cur=>
  refine λc0 d e=>(?_:[(s1 cur,s2 cur)]= [(s1 cur,min (a.length:Int) (a.length+n))])
  rw[e,Int.min_eq_left (Int.le_add_of_nonneg_right n0)]
 | @e1 cur i j k p m B D=>
  refine λc0 d e=>(?_:[(s1 (cur++[(eqO i j k).hd n]),s2 (cur++[(eqO i j k).hd n]))]= [(s1 cur,min (a.length:Int) (i+n))])
  rw[xV c0,lR,<-B];rfl
 | @join cur i j k l v g c q p f m u o C h w=>
  intro c0 d e
  have bd:=h.bd
  rw[lK u,jf]
  show _=rc n a.length (s1 cur) (min a.length (i+n)) ((i+k,l)::_)
  rw[aIu d n0 f (ip p) (dt o bd.1) (x:=l),w (by simp) (A227 p o d) ?_,xV c0]
  rw[show cur++[eqO i j k,chO g (i+k) (j+k) l v]=(cur++[eqO i j k])++[chO g (i+k) (j+k) l v] from by rw[cz];rfl,lR];rfl
 | @cut cur i j k l v g c q p f m u o C h w=>
  intro c0 d e
  have bd:=h.bd
  rw[lK u,jf,jf]
  show _=rc n a.length (s1 cur) (min a.length (i+n)) ((i+k,l)::_)
  rw[(by
   intro z n i k lo y r d n0 f s
   have t:=kx (dt (gV n n0) (ip f)) i
   have A:=Int.lt_sub_right_of_add_lt (kz i n n▸Int.add_lt_add_left f i)
   rw[rc_c,bw,ik,mc (dt t s),mc t,mz (show 0<=((i+k,y):Int×Int).1-n from (dt (px d n0) (ip A))),mz (dt (gV i n0) (ip A))]
   rw[mc (dt t s)]
   exact not_le.mpr (Int.lt_of_lt_of_le A (qx ..)):∀{z n i k lo:Int}{y:Int}{r:aq (Int×Int)}(d:0<=i)(n0:0<=n)(f:n+n<k)(s:i+k<=z),rc n z lo (min z (i+n)) ((i+k,y)::r)=(lo,min (i+k) (i+n))::rc n z (max i (i+k-n)) (min z (y+n)) r) d n0 f (dt o bd.1),w nofun (A227 p o d) rfl]
  show(s1 (cur++[(eqO i j k).hd n]),s2 (cur++[(eqO i j k).hd n]))::_=_
  rw[xV c0,lR];rfl
theorem Gp.rI(n0:0<=n)(h:Gp n a b l d):d.map sI=reach n a.length ((chg l).map pI):=by
 cases h with
 |no h e=>rcases h with rfl |⟨k,rfl⟩<;>rfl
 | @ch g i j c d o f q h=>
  rw[eX o,h.rcI n0 nofun f rfl]
  show _=rc n a.length (max 0 (0-n)) _ _
  rw[show max 0 (0-n)=0 from zzI1 0x525100f6803d040f420e803d087 [n] ⋯ n0];rfl
 | @eq g k i j c d p m o f q h=>
  rw[lK o,h.rcI n0 nofun (zzI2 0x15a40f42a68087a01f40f40087 [k,i] ⋯ p f) rfl]
  show rc n a.length (max 0 (0+k-n)) _ _=rc n a.length (max 0 (k-n)) _ _
  rw[me];rfl
def sl(l:aq Int)(i j:Int):aq Int:=(l.drop i.toNat).take (j.toNat-i.toNat)
theorem k9(c:i<=j)(d:j<=k):sl l i j++sl l j k=sl l i k:=by
 delta sl
 have a:=Int.toNat_le_toNat c
 have b:=Int.toNat_le_toNat d
 generalize i.toNat=x at a ⊢
 generalize j.toNat=y at a b ⊢
 generalize k.toNat=z at b ⊢
 obtain⟨u,rfl⟩:=Nat.le.dest a
 obtain⟨v,rfl⟩:=Nat.le.dest b
 rw[Nat.add_sub_cancel_left,Nat.add_sub_cancel_left,Nat.add_assoc,Nat.add_sub_cancel_left,List.take_add,qb]
theorem lQ:sl l i i= []:=by delta sl;rw[ox,List.take_zero]
theorem xP:sl l i l.length=l.drop i.toNat:=by
 delta sl
 rw[fo,mn]
 exact rwL qo (c5 _)
theorem gS(c:0<=i)(a:i<=j)(b:j<=l.length):((sl l i j).length:Int)=j-i:=by
 obtain⟨x,rfl⟩:=Int.eq_ofNat_of_zero_le c
 obtain⟨u,rfl⟩:=Int.le.dest a
 show(((l.drop x).take (x+u-x)).length:Int)=_
 rw[qm,qo,Nat.add_sub_cancel_left,qg (Nat.le_sub_of_add_le (vc x u▸(ot.mp b))),Int.add_comm,Int.add_sub_cancel]
theorem Mt.pre(m:Mt a b i j k)(h:t<=k):Mt a b i j t:=λx c d=>m x c (Int.lt_of_lt_of_le d h)
theorem Mt.suf(m:Mt a b i j k)(h:0<=t):Mt a b (i+t) (j+t) (k-t):=λx c d=>by
 rw[kz,kz]
 exact m (t+x) (px h c) (Int.add_lt_of_lt_sub_left d)
theorem aHt{t:Nat}(a:0<=i)(h:i.toNat+t<l.length):av l (i+t)=l[i.toNat+t]:=by
 delta av
 rw[c4,show (i+(t:Int)).toNat=i.toNat+t from A230 a,cg h];rfl
class inductive Cq(a b:aq Int):Int->Int->aq Op->Int->Int->Prop
 |nil {i j:Int}:Cq a b i j [] i j
 |eq {i j k x y:Int}{l:aq Op} (k0:0<=k) (m:Mt a b i j k) (h:Cq a b (i+k) (j+k) l x y):Cq a b i j (eqO i j k::l) x y
 |ch {i j i' j' x y:Int}{g:Tg}{l:aq Op} (hg:g.isEq=aL) (hi:i<=i') (hj:j<=j') (h:Cq a b i' j' l x y):Cq a b i j (chO g i j i' j'::l) x y
theorem Cq.app(h:Cq a b i j l x y)(c:Cq a b x y m u v):Cq a b i j (l++m) u v:=by
 induction h with
 |nil=>exact c
 |eq f m h d=>exact .eq f m (d c)
 |ch g e k h d=>exact .ch g e k (d c)
theorem Cq.le(h:Cq a b i j l x y):i<=x/\j<=y:=by
 induction h with
 |nil=>exact⟨Int.le_refl _,Int.le_refl _⟩
 |eq d m h c=>exact⟨dt (gV _ d) c.1,dt (gV _ d) c.2⟩
 |ch g e f h c=>exact⟨dt e c.1,dt f c.2⟩
theorem Cq.hd(h:Cq a b i j l x y)(c:l≠ []):s1 l=i/\t1 l=j:=by
 cases h with
 |nil=>exact ca rfl c
 |eq=>exact⟨rfl,rfl⟩
 |ch=>exact⟨rfl,rfl⟩
theorem oF(o:Op)(h:l≠ []):s2 (o::l)=s2 l/\t2 (o::l)=t2 l:=by
 cases l with
 |nil=>exact ca rfl h
 |cons=>exact⟨rfl,rfl⟩
theorem Cq.last(h:Cq a b i j l x y)(d:l≠ []):s2 l=x/\t2 l=y:=by
 induction h with
 |nil=>exact ca rfl d
 | @eq i j k x y l n m h c=>
  by_cases q:l= []
  ·subst q;cases h;exact⟨rfl,rfl⟩
  ·rw[(oF _ q).1,(oF _ q).2];exact c q
 | @ch i j o e x y g l p f r h c=>
  by_cases q:l= []
  ·subst q;cases h;exact⟨rfl,rfl⟩
  ·rw[(oF _ q).1,(oF _ q).2];exact c q
theorem Cq.mem(h:Cq a b i j l x y):∀ o∈chg l,i<=o.i1/\o.i1<=o.i2/\o.i2<=x:=by
 induction h with
 |nil=>exact λs h=>ca h cx
 | @eq i j k x y l f m h d=>
  rw[cX rfl]
  exact λo c=>⟨dt (gV _ f) (d o c).1,(d o c).2⟩
 | @ch i j q p x y g l n e r h d=>
  rw[eX n]
  intro o c
  rcases du.mp c with rfl |c
  ·exact⟨Int.le_refl _,e,h.le.1⟩
  ·exact⟨dt e (d o c).1,(d o c).2⟩
class inductive GL(a b:aq Int):cw->Int->Int->aq (aq Op)->Prop
 |nil {s:cw}{e f k:Int} (k0:0<=k) (m:Mt a b e f k) (ei:e+k=a.length) (ej:f+k=b.length):GL a b s e f []
 |cons {s:cw}{e f t x y:Int}{g:aq Op}{gs:aq (aq Op)} (t0:0<=t) (st:s=be->0<t) (m:Mt a b e f t) (c:Cq a b (e+t) (f+t) g x y) (ne:g≠ []) (h:GL a b be x y gs):GL a b s e f (g::gs)
theorem aAh{k:Int}:min (i+k) (i+n)=i+min k n:=by
 rcases Int.le_total k n with h |h
 ·rw[Int.min_eq_left h,Int.min_eq_left (kx h i)]
 ·rw[mc h,mc (kx h i)]
theorem aAk{k:Int}(h:n<=k):max i (i+k-n)=i+(k-n):=by
 rw[Int.add_sub_assoc]
 exact mz (gV i (gx h))
theorem w9{k:Int}:i+k=i+(k-n)+n:=by rw[kz,Int.sub_add_cancel]
theorem hd_eq:(eqO i j k).hd n=eqO i j (min k n):=by
 show Op.mk .eq i (min (i+k) (i+n)) j (min (j+k) (j+n))=Op.mk .eq i (i+min k n) j (j+min k n)
 rw[aAh,aAh]
theorem mt0:Mt a b i j 0:=λt c d=>ca d (lr.mpr c)
theorem GL.le(h:GL a b s e f l):e<=a.length/\f<=b.length:=by
 induction h with
 |nil d m k j=>exact⟨k▸gV _ d,j▸gV _ d⟩
 |cons g st m c n h i=>exact⟨dt (gV _ g) (dt c.le.1 i.1),dt (gV _ g) (dt c.le.2 i.2)⟩
theorem Gk.gl(n0:0<=n)(h:Gk n a b cur i j d r):∀ {s:cw}{e f t:Int},0<=t->(s=be->0<t)->Mt a b e f t->Cq a b (e+t) (f+t) cur i j->cur≠ []->GL a b s e f r:=by
 induction h with
 |e0=>exact λt0 st q c o=>.cons t0 st q c o (.nil (Int.le_refl 0) mt0 (nh _) (nh _))
 | @e1 cur i j k p m B D=>
  intro s e f t t0 st q c o
  refine rwL hd_eq ?_
  have l:=Int.min_le_left k n
  refine .cons t0 st q (c.app (.eq (le_min.mpr ⟨ip p,n0⟩) (m.pre l) .nil)) (List.append_ne_nil_of_left_ne_nil o _) (.nil (gx l) (m.suf (le_min.mpr ⟨ip p,n0⟩)) (rwR B A234) ?_)
  ·exact rwR D A234
 | @join cur i j k C E g d r p u m v y w h z=>
  exact λt0 st q c o=>z t0 st q (c.app (.eq (ip p) m (.ch v y w .nil))) (List.append_ne_nil_of_left_ne_nil o _)
 | @cut cur i j k C E g d r p u m v y w h z=>
  intro s e f t t0 st q c o
  have l:=A235 p u
  refine rwL hd_eq (rwL (mc l) ?_)
  have e1:∀ x:Int,x+n+(k-n-n)=x+(k-n):=λx=>(zzI0 0x169a81a00a69a81069a00003 [x,n,k] ⋯)
  have A:∀ x:Int,x+(k-n)+n=x+k:=λx=>(zzI0 0x169a00aaaa41a00003 [x,k,n] ⋯)
  refine .cons t0 st q (c.app (.eq n0 (m.pre l) .nil)) (List.append_ne_nil_of_left_ne_nil o _) ((((by
   intro i j k h
   show Op.mk .eq (max i (i+k-n)) (i+k) (max j (j+k-n)) (j+k)=Op.mk .eq (i+(k-n)) (i+(k-n)+n) (j+(k-n)) (j+(k-n)+n)
   rw[aAk h,aAk h,<-w9,<-w9]:∀{i j k:Int}(h:n<=k),(eqO i j k).tl n=eqO (i+(k-n)) (j+(k-n)) n) l)▸z) (ip (A236 u)) (λF=>(A236 u)) ((m.suf n0).pre (zzI1 0x5a29068a290410a803d087 [n,k] ⋯ n0)) ?_ nofun)
  rw[e1,e1]
  refine .eq n0 ((m.suf (zzI1 0x5a29040f42a68087 [n,k] ⋯ l)).pre (zzI0 0x68a41a41a02 [n,k] ⋯)) ?_
  rw[A,A]
  exact .ch v y w .nil
theorem Gp.gl(n0:0<=n)(h:Gp n a b l d):GL a b aL 0 0 d:=by
 cases h with
 |no h e=>subst e;exact .nil (eO a.length) (λt u u=>rfl) (me _) (me _)
 |ch f c o h=>exact h.gl n0 (Int.le_refl 0) nofun mt0 (.ch f c o .nil) nofun
 | @eq g k i j q d p m f c o h=>
  have t:(eqO 0 0 k).tl n=eqO (0+(k-min k n)) (0+(k-min k n)) (min k n):=by
   show Op.mk .eq (max 0 (0+k-n)) (0+k) (max 0 (0+k-n)) (0+k)=Op.mk .eq (0+(k-min k n)) (0+(k-min k n)+min k n) (0+(k-min k n)) (0+(k-min k n)+min k n)
   rw[show max 0 (0+k-n)=0+(k-min k n) from (zzI0 0x4a911112aa680e8040f40a6803d00103d083 [k,n] ⋯),show 0+k=0+(k-min k n)+min k n from (zzI0 0x11149525129a03a680e8040f4002803d003 [k,n] ⋯)]
  have s:=Int.min_le_left k n
  have r:=le_min.mpr ⟨ip p,n0⟩
  exact (t▸h).gl n0 (gx s) nofun (m.pre (Int.sub_le_self _ r)) (.eq r ((m.suf (gx s)).pre (zzI0 0x44a529a03a01a01a680c2 [k,n] ⋯)) (rwL (show 0+(k-min k n)+min k n=k from (zzI0 0x444a92a44a29a03a680e8040f40003 [k,n] ⋯)) (.ch f c o .nil))) nofun
class inductive Its(K:ItK C)(B:MH):K.σ->aq V->Prop
 |nil {it:K.σ} (h:∀ {H:MH}{P:bn (V×K.σ)->MH->Prop},Hx B H->P none H->K.nx it H P):Its K B it []
 |cons {it it':K.σ}{v:V}{vs:aq V} (h:∀ {H:MH}{P:bn (V×K.σ)->MH->Prop},Hx B H->P (ao (v,it')) H->K.nx it H P) (t:Its K B it' vs):Its K B it (v::vs)
theorem f6(d:lst B (.ref r)=ao vs):∀ (a:aq V) (p:Nat),vs.drop p=a->Its (bA C) B (r,p) a:=λn=>by
 induction n with
 |nil=>
  intro p b
  exact .nil λ{H P} c q=>Lf.mk (by
    show(lst H (.ref r)).map _=_
    rw[c.lst d,pd,ft (mj.mp b)];rfl) q
 |cons v a e=>
  intro p b
  exact .cons (λ{H P} c q=>Lf.mk (by
     show(lst H (.ref r)).map _=_
     rw[c.lst d,pd,show vs[p]? =ao v from by rw[<-qa,b];rfl];rfl) q)
    (e (p+1) (by rw[<-qb,b];rfl))
theorem iH:∀ (n:Nat) (x:Int),Its (d8 C) B (x,n,1) (m8 x 1 n)
 |0,x=>.nil λhx q=>q
 |n+1,x=>.cons (λhx q=>q) (iH n (x+1))
structure Put(I:Lo->Prop)(B:MH)(ai:Nat)(out:aq V)(F:Lo->MH->LK->Prop):Prop where
 p:∀ {lo:Lo}{H:MH}{acc:aq V}{P:LK},I lo->Hx B H->H[ai]? =ao (.list acc)->acc.length+out.length<1000000->
 (∀ {lo' H'},I lo'->Hx B H'->H'[ai]? =ao (.list (acc++out))->P lo' H')->F lo H P
def fF(tgt:AF)(t:TF)(bf:Lo->MH->LK->Prop)(v:V):Lo->MH->LK->Prop:=λlo H P=>tgt v lo H λlo1 H1=>t lo1 H1 λb H2=>bif b then bf lo1 H2 P else P lo1 H2
theorem pJ{α:Type}{K:ItK C}{s:BF}{b:Nat}(f:α->V)(out:α->aq V)(I:Lo->Prop):∀ (l:aq α){it:K.σ},Its K B it (l.map f)->(∀ x∈l,Put I B b (out x) (fF tgt t (s b) (f x)))-> ∀ {lo:Lo}{H:MH}{acc:aq V}{P:LK},I lo->Hx B H->H[b]? =ao (.list acc)->acc.length+(l.flatMap out).length<1000000->(∀ {a H'},I a->Hx B H'->H'[b]? =ao (.list (acc++l.flatMap out))->P a H')->lS K tgt t (s b) (l.length+1) it lo H P:=λn=>by
 induction n with
 |nil=>
  intro it j o lo H acc P i c e d k
  cases j with
  |nil h=>exact h c (k i c (by rw[List.flatMap_nil,c6];exact e))
 |cons x l A=>
  intro it j o lo H acc P i c e d k
  cases j with
  |cons h w=>
   rw[gj,bx]at d
   refine h c ((o x ce).p i c e (zzM1 0x15ec3283d07da6800001ec3283d07daa9028000007 [acc.length,(out x).length,(List.flatMap out l).length] ⋯ d) λ{a H'} z r q=>(A w (λy v=>o y (b4 _ v)) z r q (by exact rwL bx (zzM1 0x15ec3283d07daa9a0000001ec3283d07daa9028000007 [acc.length,(out x).length,(List.flatMap out l).length] ⋯ d)) λ{u E} D m g=>k D m ?_))
   rw[gj,<-cz];exact g
theorem oZ{α:Type}{K:ItK C}{a:aq Str}{b:BF}{Q:EK}{it:K.σ}(f:α->V)(out:α->aq V)(I:Lo->Prop)(l:aq α)(d:Its K H it (l.map f))(g:I (hide a lo))(c:(l.flatMap out).length<1000000)(hs:∀ x∈l,Put I H H.length (out x) (fF tgt t (b H.length) (f x)))(k:∀ {H'},Hx H H'->H'[H.length]? =ao (.list (l.flatMap out))->Q (.ref H.length) H'):∃ n,lS K tgt t (b H.length) n it (hide a lo) (H++[.list []]) λq e=>Q (.ref H.length) e:=⟨_,pJ f out I l d hs g (.app _ _) (aU _ _) (by rw[ly,Nat.zero_add];exact c) λq h i=>k h i⟩
theorem f7{α:Type}{K:ItK C}{a:aq Str}{b:IF K}{it:K.σ}(f:α->V)(out:α->aq V)(I:Lo->Prop)(l:aq α)(h:∀ {P:K.σ->MH->Prop},P it H->b lo H P)(e:Its K H it (l.map f))(g:I (hide a lo))(d:(l.flatMap out).length<1000000)(hs:∀ x∈l,Put I H H.length (out x) (fF tgt t (c H.length) (f x)))(k:∀ {H'},Hx H H'->H'[H.length]? =ao (.list (l.flatMap out))->Q (.ref H.length) H'):bJ K a b tgt t c lo H Q:=h (oZ f out I l e g d hs k)
theorem wB(b:∀ {Q:EK},Q (.ref r) H->f lo H Q)(a:lst H (.ref r)=ao vs)(q:P (r,0) H):iL f lo H P:=b (Lf.mk rfl ⟨⟨_,a⟩,q⟩)
theorem put1{b:Nat}{I:Lo->Prop}{P:LK}(g:B[b]? =none)(f:Hx B H)(c:H[b]? =ao (.list acc))(d:acc.length+out.length<1000000)(e:out= [v])(i:I lo)(k:∀ {a H'},I a->Hx B H'->H'[b]? =ao (.list (acc++out))->P a H'):Lf (H[b]?.bind MO.own) λvs=>vs.length<1000000/\P lo (H.set b (.list (vs++[v]))):=Lf.mk (c7 c) ⟨ec (lq _ _) d,k i (f.set g) (by exact rwL e (aK c _))⟩
theorem put0{b:Nat}{I:Lo->Prop}{P:LK}(d:Hx B H)(c:H[b]? =ao (.list acc))(e:out= [])(i:I lo)(k:∀ {a H'},I a->Hx B H'->H'[b]? =ao (.list (acc++out))->P a H'):P lo H:=k i d (by rw[e,c6];exact c)
structure Val(I:Lo->Prop)(B:MH)(ai:Nat)(v:V)(F:Lo->MH->EK->Prop):Prop where
 p:∀ {lo:Lo}{H:MH}{acc:aq V}{Q:EK},I lo->Hx B H->H[ai]? =ao (.list acc)->(∀ {H'},Hx B H'->H'[ai]? =ao (.list acc)->Q v H')->F lo H Q
theorem oH{f:EF}{b:Nat}(h:B[b]? =none)(m:∀ {lo:Lo}{H:MH}{R:Lo->MH->Prop},I lo->(∀ {a},J a->I a->R a H)->tgt w lo H R)(o:Val J B b v f):Put I B b [v] (fF tgt (tK be) (aV f b) w):=⟨λ{lo H acc P} i g l e k=>m i λ{a} j n=>o.p j g l λ{H'} d c=>put1 h d c e rfl n k⟩
theorem wU(a:rd H eqD x=ao d)(b:rd H eqD y=ao d)(s:PySem.SeqAt.shaped d=be):eqv H x y=ao be:=by
 delta eqv
 rw[a,b]
 show(if (PySem.SeqAt.shaped d && PySem.SeqAt.shaped d)=be then ao (PyData.eqv d d) else none)=ao be
 exact rwL s (cu ao (PySem.SeqAt.eqv_refl d ((cp.mp s).1)))
theorem kH{α:Type}(f:α->V)(d:α->iq){l:aq α}(b:lst H (.ref r)=ao (l.map f))(h:∀ x∈l,rd H n (f x)=ao (d x)):rd H (n+1) (.ref r)=ao (.list (l.map d)):=by
 show(lst H (.ref r)).bind (λvs=>(vs.mapM (rd H n)).map PyData.list)=_
 rw[b]
 show((l.map f).mapM (rd H n)).map PyData.list=_
 rw[(by
  exact λ{α n} f d=>λn=>by
    induction n with
    |nil=>
     exact λq=>rfl
    |cons x l c=>
     intro h
     rw[jf,fe,h x ce,c λy a=>h y (b4 _ a)];rfl:∀{α:Type}{n:Nat}(f:α->V)(d:α->iq),∀ l:aq α,(∀ x∈l,rd H n (f x)=ao (d x))->(l.map f).mapM (rd H n)=ao (l.map d)) f d l h];rfl
theorem jP{α:Type}(d:α->iq):∀ l:aq α,(∀ x∈l,(d x).canLay0=be/\(d x).depth<=m)->PyData.canLayAll0 (l.map d)=be/\PyData.depthAll (l.map d)<=m:=λn=>by
 induction n with
 |nil=>
  exact λq=>⟨rfl,hN _⟩
 |cons x l e=>
  intro h
  have a:=h x ce
  have b:=e λy c=>h y (b4 _ c)
  refine⟨?_,Nat.max_le.mpr ⟨a.2,b.2⟩⟩
  show((d x).canLay0 && PyData.canLayAll0 (l.map d))=be
  rw[a.1,b.1];rfl
theorem sM{α:Type}{b:Nat}(f:α->V)(d:α->iq){l:aq α}(e:lst H (.ref r)=ao (l.map f))(g:lst H (.ref b)=ao (l.map f))(c:∀ x∈l,rd H 7 (f x)=ao (d x))(hs:∀ x∈l,(d x).canLay0=be/\(d x).depth<=9):eqv H (.ref r) (.ref b)=ao be:=wU (kH f d e c) (kH f d g c) (((by
  intro a hs d
  unfold PySem.SeqAt.shaped
  rw[bp d,Bool.and_true];exact hs:∀{a:aq iq}(hs:PyData.canLayAll0 a=be)(d:(PyData.list a).depth<=64),PySem.SeqAt.shaped (.list a)=be) (jP d l hs).1 (Nat.succ_le_of_lt (ec (jP d l hs).2 (by decide)))))
def dI(x:Int):iq:=.int x
def dO(o:Op):iq:=.tuple [.str o.tag.s,.int o.i1,.int o.i2,.int o.j1,.int o.j2]
theorem aBm(o:Op):(dO o).canLay0=be/\(dO o).depth<=9:=⟨by
 obtain⟨t,_,_,_,_⟩:=o
 cases t<;>kernel_rfl,(by decide:1<=9)⟩
def pk{α:Type}(vs:aq α)(lo hi st:bn Int):aq α:=(sliceRange (qj lo hi st vs.length).1 (qj lo hi st vs.length).2.1 (qj lo hi st vs.length).2.2).filterMap (vs[·]?)
theorem mK{b:Type}(g:α->b)(vs:aq α)(lo a st:bn Int):pk (vs.map g) lo a st=(pk vs lo a st).map g:=by
 delta pk
 rw[bq,List.map_filterMap]
 congr 1
 funext i
 exact ma
theorem pk_len(vs:aq α)(lo a st:bn Int):(pk vs lo a st).length<=vs.length:=by
 have h:=slicePick_size_le (vs.map λq=>Value.none).toArray lo a st
 have e:(slicePick (vs.map λq=>Value.none).toArray lo a st).size=(pk (vs.map λq=>Value.none) lo a st).length:=by
  exact rwL List.size_toArray (rwL List.size_toArray (cu (λg=>(List.filterMap g _).length) (funext λi=>List.getElem?_toArray)))
 rw[e,mK,bq]at h
 exact Nat.le_trans h (by rw[List.size_toArray,bq];exact c5 _)
theorem jL(vs:aq α)(lo a:bn Int):pk vs lo a none=(vs.drop (lo.elim 0 (m3 vs.length))).take (a.elim vs.length (m3 vs.length)-lo.elim 0 (m3 vs.length)):=by
 delta pk
 rw[sliceBounds_plain]
 rw[<-(funext λi=>List.getElem?_toArray)]
 rw[sliceRange_one,pick_run]
theorem mA{n:Nat}{x:Int}(c:0<=x)(b:x<=n):m3 n x=x.toNat:=by
 refine xE (Int.eq_ofNat_of_zero_le c) λm a=>?_;subst a
 rw[clipAt_nat,qg (ot.mp b),fo]
theorem m9(c:0<=i)(a:i<=j)(b:j<=l.length):pk (l.map V.int) (ao i) (ao j) none=(sl l i j).map V.int:=by
 rw[mK,jL]
 show((l.drop (m3 l.length i)).take (m3 l.length j-m3 l.length i)).map V.int=_
 rw[mA c (dt a b),mA (dt c a) b];rfl
theorem gK{lo a st:bn Int}(h:lst H (.ref r)=ao vs)(c:vs.length<1000000)(b:st≠ao 0)(q:Q (.ref H.length) (H++[.list (pk vs lo a st)])):Lp (slc (.ref r) lo a st H) Q:=by
 refine Lp.mk ?_ q
 show(lst H (.ref r)).bind _=_
 rw[h]
 show(if vs.length<1000000/\st≠ao 0 then mkL (zX vs lo a st) H else none)=_
 rw[cj ⟨c,b⟩,(by exact λvs lo a st=>rfl:∀(vs:aq V)(lo a st:bn Int),zX vs lo a st=pk vs lo a st)]
 exact cj (ec (pk_len ..) c)
theorem pQ{a:Nat}(h:H[r]? =ao (.list vs))(h':H[a]? =ao (.list ws))(b:vs.length+ws.length<1000000)(q:Q (.ref H.length) (H++[.list (vs++ws)])):Lp (aP (.ref r) (.ref a) H) Q:=(by
 refine Lp.mk ?_ q
 show(lst H (.ref r)).bind (λxs=>(lst H (.ref a)).bind λys=>mkL (xs++ys) H)=_
 exact rwL (aG h) (rwL (aG h') (cj (by exact rwL bx b))))
theorem v8:∀ l:aq Int,nC (l.map V.int)=ao l
 | []=>rfl
 |x::l=>by
  have:=v8 l
  unfold nC at this ⊢
  rw[jf,fe,this];rfl
theorem sum_i{l:aq Int}(h:lst H (.ref r)=ao (l.map V.int))(q:Q (.int l.sum) H):y7 [.ref r] H Q:=by
 refine Lp.mk ?_ q
 show(lst H (.ref r)).bind (λxs=>(nC xs).map λis=>(V.int is.sum,H))=_
 rw[h]
 show(nC (l.map V.int)).map _=_
 rw[v8];rfl
theorem aFh(h:lst H (.ref r)=ao vs)(a:vs.length<1000000)(q:Q (.int vs.length) H):bQ [.ref r] H Q:=by
 refine Lp.mk ?_ q
 show(lst H (.ref r)).bind _=_
 exact rwL h (cj a)
theorem Y2{a b:Int}:(((2:Nat)*m)+(1:Nat))<=((2:Nat)*n)->((2:Nat)*n)<((((2:Nat)*m)+(1:Nat))+(((2:Nat)*(p-m))-(1:Nat)))->a=((n:Nat):Int)->((((p:Nat):Int)<=a)/\((a<=b)/\(b<=c)))->fm:=zzR 0x220201119a28aa90a9a02168a2a102147a291280c707da2a042f8107da02f80001f690be0001e90be07da02f80007 [a,b,c] [m,n,p] ⋯
theorem Y7{a b:Int}:a=((m:Nat):Int)->((((n:Nat):Int)<=a)/\(b<=c))->((p:Nat):Int)<=((n:Nat):Int)->¬(p=n)->(((2:Nat)*(m-p))+(1:Nat))=(((1:Nat)+(((2:Nat)*(n-p))-(1:Nat)))+(((2:Nat)*(m-n))+(1:Nat))):=zzR 0x5120a24144828905120a24144828905120a24144828905120a2414482890900480240120090048024012011804601180460403358010010000a005002801400a005002801400a005002801400a005002801400a005002801400a005002801400a005002801400a005002801401f69a010be001f6aa410be041f40001f6aa010be001a29a81107a29128a84087aa90a8a29102147a281280c7 [a,b,c] [m,n,p] ⋯
theorem Y10{a b:Int}:a<=b->(0:Int)<=a->(0:Int)<=b:=zzI 0x56903d0a803d087a68087 [a,b] ⋯
theorem Y11{a b:Int}:a<=b->a=((m:Nat):Int)->b=(((Int.toNat b):Nat):Int):=zzR 0x92a10428a29104a43a281280c7a68087 [a,b] [m] ⋯
theorem Y12{a:Int}:a<=(a+((m:Nat):Int)):=zzR 0x68a04a00a02 [a] [m] ⋯
theorem Y13:(0:Int)<=((m:Nat):Int):=zzM 0x1a28100f42 [m] ⋯
theorem Y14{a b:Int}:a<=((m:Nat):Int)->(((((n:Nat):Int)+((p:Nat):Int))<=b)/\((c+((p:Nat):Int))<=a))->(c+((p:Nat):Int))<=((m:Nat):Int):=zzR 0xa68a04a2a12a002a28a84a800a9a2a128a44002147a28128087 [a,b,c] [m,n,p] ⋯
theorem Y15{a b:Int}:a<=((m:Nat):Int)->(((((n:Nat):Int)+((p:Nat):Int))<=a)/\((b+((p:Nat):Int))<=c))->(((n:Nat):Int)+((p:Nat):Int))<=((m:Nat):Int):=zzR 0x968a04a2a128a44002aa8a84a400a8a2a128a44002147a28128087 [a,b,c] [m,n,p] ⋯
theorem Y17{a b:Int}:m<(n+p)->a=((m:Nat):Int)->(((((n:Nat):Int)+((p:Nat):Int))<=a)/\((a<=b)/\(b<=c)))->fm:=zzR 0x25a2aa42a68085a28a84a291000851e8a04a031eaa4007da00007 [a,b,c] [m,n,p] ⋯
theorem Y18{a b:Int}:m<(n+p)->((a<=((m:Nat):Int))/\(((m:Nat):Int)<b))->(((((n:Nat):Int)+((p:Nat):Int))<=a)/\((a<=b)/\(b<=c)))->fm:=zzR 0x968aa90a9a02168a2a128a44002147a41f68a04002a281280851eaa4007da00007 [a,b,c] [m,n,p] ⋯
theorem Y19{a:Int}:(0:Int)<=a->(0:Int)<=(a+((m:Nat):Int)):=zzR 0x168a04a0003d0a803d087 [a] [m] ⋯
theorem Y20:(((m:Nat):Int)+((n:Nat):Int))=(((m+n):Nat):Int):=zzM 0x168a68004a29128a04003 [m,n] ⋯
theorem Y22{a b:Int}:a=((m:Nat):Int)->(((((n:Nat):Int)+((p:Nat):Int))<=a)/\((b+((p:Nat):Int))<=c))->(((2:Nat)*(m-n))+(1:Nat))=(((2:Nat)*p)+(((2:Nat)*(m-(n+p)))+(1:Nat))):=zzR 0x4ccd013043343358101001f6aa40a010be02a0be001f69a010be001aa8a84a400a8a2a128a44002147a281280c7 [a,b,c] [m,n,p] ⋯
theorem Y23{a:Int}:(0:Int)<=a->a=(((Int.toNat a):Nat):Int):=zzI 0x12a44a28a041280e803d087 [a] ⋯
theorem Y24{a:Int}:a=((m:Nat):Int)->a=((n:Nat):Int)->(((2:Nat)*(n-m))+(1:Nat))=((0:Nat)+(1:Nat)):=zzR 0x40811b26307d03d001f68a410be001a291280c7a281280c7 [a] [m,n] ⋯
theorem Y25:((m+(1:Nat))+n)=(m+(n+(1:Nat))):=zzM 0x141f6902802907da00001 [m,n] ⋯
theorem Y27:((m:Nat):Int)<=(((m+(1:Nat)):Nat):Int):=zzM 0x1a01f68004a28102 [m] ⋯
theorem Y28:(((m:Nat):Int)+(1:Int))=(((m+(1:Nat)):Nat):Int):=zzM 0x16807da00101f68a04003 [m] ⋯
theorem Y29:m<((n+(1:Nat))+p)->m<(n+(p+(1:Nat))):=zzM 0x141f6a029001f68000a81f6900007da00007 [m,n,p] ⋯
theorem Y30:(m+(1:Nat))<=n->m<=n:=zzM 0x5a6802907da00007 [m,n] ⋯
theorem Y32:m<(m+(n+(1:Nat))):=zzM 0x41f69028001f68000 [m,n] ⋯
theorem Y34:((2:Nat)*n)<=m->m<((2:Nat)*(n+(1:Nat)))->(m=((2:Nat)*n))\/(m=(((2:Nat)*n)+(1:Nat))):=zzM 0x24951207da42f80a01a42fa804607da400be07da00007a290be007 [m,n] ⋯
theorem Y35:((2:Nat)*m)<=((2:Nat)*n)->((2:Nat)*n)<((2:Nat)*(m+(1:Nat)))->m=n:=zzM 0x1a669a0107da000be07da42f80007a42fa80be007 [m,n] ⋯
theorem Y36:((2:Nat)*m)<=(((2:Nat)*n)+(1:Nat))->(((2:Nat)*n)+(1:Nat))<((2:Nat)*(m+(1:Nat)))->m=n:=zzM 0x1a669a0107da000be07d07da42f800001c1f690be0280be007 [m,n] ⋯
theorem Y43:(m+n)=(1:Nat)->n=p->m=((1:Nat)-p):=zzM 0x815145246a07d06806aa411c1f69a00047 [m,n,p] ⋯
theorem Y47:(m+n)=((2:Nat)*p)->(m+(n+(1:Nat)))=(((2:Nat)*p)+(1:Nat)):=zzM 0x5241f6a0be001f69028001a82fa9a00047 [m,n,p] ⋯
theorem Y52{a b:Int}:((a<=((m:Nat):Int))/\(b<=((n:Nat):Int)))->((c=a)/\(d=b))->d<=((n:Nat):Int):=zzR 0x48a8a44ac2a6b0e8a83147a291290a8a04a02147 [a,b,c,d] [m,n] ⋯
theorem Y53{a b:Int}:((a<=((m:Nat):Int))/\(b<=((n:Nat):Int)))->((c=a)/\(d=b))->c<=((m:Nat):Int):=zzR 0x4268a04a82a6b0e8a83147a291290a8a04a02147 [a,b,c,d] [m,n] ⋯
theorem Y58{a b:Int}:((m:Nat):Int)<=((2:Int)*(min ((n:Nat):Int) (a+b)))->((m:Nat):Int)<=(min ((2:Int)*((n:Nat):Int)) ((2:Int)*(a+b))):=zzR 0x124b4b4a9a000bea29102f83a28102a68028a440c2fa8a04087 [a,b] [m,n] ⋯
theorem Y59{a b:Int}:((2:Int)*(max (0:Int) (a-b)))<=((m:Nat):Int)->(max (0:Int) ((2:Int)*(a-b)))<=((m:Nat):Int):=zzR 0x124b4b4a8a04a68042f80f420a8a04a68040f420be087 [a,b] [m] ⋯
theorem Y60{a b:Int}:(((0:Int)<=a)/\((a<=b)/\(b<=((m:Nat):Int))))->n<=((2:Nat)*(Int.toNat b))->((n:Nat):Int)<=((2:Int)*b):=zzR 0x51b50a42fa8a440a8a440bea401e8a04a42a68085a00f42147 [a,b] [m,n] ⋯
theorem Y61{a:Int}:((2:Nat)*(Int.toNat a))<=m->((2:Int)*a)<=((m:Nat):Int):=zzR 0x15aa8a04a02f82a28a040be007 [a] [m] ⋯
theorem Y62{a:Int}:((m:Nat):Int)<=((2:Int)*a)->m<=((2:Nat)*(Int.toNat a)):=zzR 0x16a68a040bea00a02fa8a04087 [a] [m] ⋯
theorem Y63{a:Int}:((2:Int)*a)<=((m:Nat):Int)->((2:Nat)*(Int.toNat a))<=m:=zzR 0x2268a28102f80a281280be087 [a] [m] ⋯
theorem Y64{a b:Int}:((m:Nat):Int)<=(min ((2:Int)*((n:Nat):Int)) ((2:Int)*(a+b)))->((m:Nat):Int)<=((2:Int)*(min ((n:Nat):Int) (a+b))):=zzR 0x492a54a9a00a291030bea28102a68002fa8a440be0e8a04087 [a,b] [m,n] ⋯
theorem Y65{a b:Int}:(max (0:Int) ((2:Int)*(a-b)))<=((m:Nat):Int)->((2:Int)*(max (0:Int) (a-b)))<=((m:Nat):Int):=zzR 0x492a54a8a04a68040f420be0a8a04a68042f80f42087 [a,b] [m] ⋯
theorem Y66{a b:Int}:(((0:Int)<=a)/\((a<=b)/\(b<=((m:Nat):Int))))->(((2:Nat)*(Int.toNat a))<=((2:Nat)*(Int.toNat b)))/\(((2:Nat)*(Int.toNat b))<(((2:Nat)*m)+(1:Nat))):=zzR 0x136d31021b58c8607da02f8007da29102f80028a440bea28102f80168a04a42a68085a00f42147 [a,b] [m] ⋯
theorem Y67{a b:Int}:(((0:Int)<=a)/\((a<=b)/\(b<=((m:Nat):Int))))->b<c->(((2:Nat)*(Int.toNat b))+(1:Nat))<((2:Nat)*(Int.toNat c)):=zzR 0x24a8cd9254628a840be07d07da29102f80000a81f690021e8a04a42a68085a00f42147 [a,b,c] [m] ⋯
theorem Y70{a b:Int}:a<=b->(max (0:Int) (a-c))<=(max (0:Int) (b-c)):=zzI 0x1152a22aa4103d0aaa0103d082a68087 [a,b,c] ⋯
theorem Y75{a b:Int}:a<=b->b<=c->(0:Int)<=a->(0:Int)<=c:=zzI 0x156a03d0a803d087aa9087a68087 [a,b,c] ⋯
theorem Y81{a b:Int}:a<=b->b<=c->a<=c:=zzI 0x56aa02aa9087a68087 [a,b,c] ⋯
theorem Y83:((m<=n)/\(n<p))->(n+(1:Nat))<=q->(q+(1:Nat))<m->fm:=zzM 0xa68a01f41f6b000007ac1f690001ea07da40029a00147 [m,n,p,q] ⋯
theorem Y84:m<=(n+(1:Nat))->(n+(1:Nat))<m->fm:=zzM 0x5a2807d07da400001c1f69028007 [m,n] ⋯
theorem Y85:(m+(1:Nat))<=m->fm:=zzM 0x1a2807da00007 [m] ⋯
theorem Y89:m<=n->m<=(n+(1:Nat)):=zzM 0x507da40a00a68007 [m,n] ⋯
theorem Y92:(m-(1:Nat))<=n->(n+(1:Nat))<m->fm:=zzM 0x2aaa2807d07da400001e907da01007 [m,n] ⋯
theorem Y93:((m<=n)/\(n<p))->q<=(m-(1:Nat))->(n+(1:Nat))<q->fm:=zzM 0x145468ac1f41f6900000707da01ac01ea07da40029a00147 [m,n,p,q] ⋯
theorem Y94: ¬(m=(0:Nat))->m<=(m-(1:Nat))->fm:=zzM 0x12a52807da01a001e803da01107 [m] ⋯
theorem Y96{p:Nat}:((m<=n)/\(n<p))->m<p:=zzM 0x56a07da0002a07da40029a00147 [m,n,p] ⋯
theorem Y100:m<n->(m-(1:Nat))<n:=zzM 0x129a41f41f6804002907da00007 [m,n] ⋯
theorem Y102{n:Nat}:m=n->n<m->fm:=zzM 0x9a2807da40007a68047 [m,n] ⋯
theorem Y105:m<=n->((2:Nat)*n)<p->((2:Nat)*m)<p:=zzM 0xaea07da02f8002a07da42f80007a68007 [m,n,p] ⋯
theorem Y107:m<=n->((2:Nat)*m)<=((2:Nat)*n):=zzM 0x2e90bea02f80a68007 [m,n] ⋯
theorem Y108:(((0:Nat)<=m)/\((m<=n)/\(n<=p)))->((2:Nat)*m)<=(((2:Nat)*p)+(1:Nat)):=zzM 0x2d81f6a0be0280be02aa40a68005a00f40147 [m,n,p] ⋯
theorem Y109:(((0:Nat)<=m)/\((m<=n)/\(n<=p)))->(((2:Nat)*n)+(1:Nat))<=(((2:Nat)*p)+(1:Nat)):=zzM 0x2c07da82f8007da42f8002aa40a68005a00f40147 [m,n,p] ⋯
theorem Y110:(((0:Nat)<=m)/\((m<=n)/\(n<=p)))->((2:Nat)*m)<=(((2:Nat)*n)+(1:Nat)):=zzM 0x981f690be0280be02aa40a68005a00f40147 [m,n,p] ⋯
theorem Y111:m<n->(((2:Nat)*m)+(1:Nat))<=((2:Nat)*n):=zzM 0x2e90be07da02f8002907da00007 [m,n] ⋯
theorem Y112:m<=n->n<p->((2:Nat)*m)<((2:Nat)*p):=zzM 0x16ea0be07da02f8002a07da40007a68007 [m,n,p] ⋯
theorem Y113:m<=n->p<m->(((2:Nat)*p)+(1:Nat))<=((2:Nat)*n):=zzM 0x16e90be07da82f8002807da80007a68007 [m,n,p] ⋯
theorem Y118:((m<=((2:Nat)*n))/\(p<=q))->(((2:Nat)*p)+(1:Nat))<=(((2:Nat)*q)+(1:Nat)):=zzM 0x581f6b0be001f6a0be000aea0290bea00147 [m,n,p,q] ⋯
theorem Y119:((m<=n)/\(n<=p))->((2:Nat)*m)<=(((2:Nat)*n)+(1:Nat)):=zzM 0x1307da42f80a02f80aa9029a00147 [m,n,p] ⋯
theorem Y124{n:Nat}:m<=n->(m+(n-m))=n:=zzM 0x525129a29068001a68007 [m,n] ⋯
theorem Y125:((2:Nat)*n)<=((((2:Nat)*m)+(1:Nat))+(p+(1:Nat)))->((((2:Nat)*m)+(1:Nat))+(p+(1:Nat)))<((2:Nat)*(n+(1:Nat)))->(((m+(1:Nat)):Nat):Int)<=((n:Nat):Int):=zzM 0x1aa2912807da0010207da400be07d07da8007da02f8000000707da8007da02f800290be007 [m,n,p] ⋯
theorem Y127:((2:Nat)*m)<=((((2:Nat)*n)+(1:Nat))+(1:Nat))->((((2:Nat)*n)+(1:Nat))+(1:Nat))<((2:Nat)*(m+(1:Nat)))->m=(n+(1:Nat)):=zzM 0x69907da40a0107da000be07d07d07da42f8000000707d07da42f800280be007 [m,n] ⋯
theorem Y134{p:Nat}:((m<=n)/\(n<=p))->(m<=m)/\((m<=n)/\(n<=n)):=zzM 0x22529a40a68005a28005aa9029a00147 [m,n,p] ⋯
theorem Y135{s:Nat}:((m<=n)/\((n<=p)/\(p<=q)))->((n<=r)/\((r<=s)/\(s<=q)))->(m<=r)/\((r<=s)/\(s<=q)):=zzM 0x14090446bb40b6c005b28005aed02db0016ca40147aea02aa40169a00147 [m,n,p,q,r,s] ⋯
theorem Y137{q:Nat}:((m<=n)/\((n<=p)/\(p<=q)))->(n<=n)/\((n<=p)/\(p<=p)):=zzM 0x10922aa80aa9005a69005aea02aa40169a00147 [m,n,p,q] ⋯
theorem Y143{r:Nat}:((m<=n)/\((n<=p)/\(p<=q)))->(m<=n)/\((n<=p)/\(p<=(max r p))):=zzM 0x20a1246ab02a80aa9005a68005aea02aa40169a00147 [m,n,p,q,r] ⋯
theorem Y145{r:Nat}:m<=n->((p<=q)/\((q<=r)/\(r<=n)))->(max m r)<=n:=zzM 0x121069b28080a6c02cac016ba80147a68007 [m,n,p,q,r] ⋯
theorem Y147:((m<=n)/\(n<=p))->p<(1000:Nat)->n<(1000:Nat):=zzM 0xa9fa3d07da4001fa3d07da80007aa9029a00147 [m,n,p] ⋯
theorem Y148{a b:Int}:((a<=((m:Nat):Int))/\(((m:Nat):Int)<b))->(((2:Int)*a)<=(((((2:Nat)*m)+(1:Nat)):Nat):Int))/\((((((2:Nat)*m)+(1:Nat)):Nat):Int)<=((2:Int)*b)):=zzR 0x593a42fa807da02f80102a01f680be004a02f8216907da281000a8a04a02147 [a,b] [m] ⋯
theorem Y149{a b:Int}:a=((m:Nat):Int)->(((0:Int)<=a)/\((a<=b)/\(b<=((n:Nat):Int))))->(((2:Int)*a)<=((((2:Nat)*m):Nat):Int))/\(((((2:Nat)*m):Nat):Int)<=((2:Int)*b)):=zzR 0x4cc83a42fa8a02f840a8a02f84a02f82168a44a42a68085a00f42147a281280c7 [a,b] [m,n] ⋯
theorem Y150{a b:Int}:((((2:Int)*a)<=((m:Nat):Int))/\(((m:Nat):Int)<=((2:Int)*b)))->((c<=a)/\((a<=b)/\(b<=d)))->(((2:Nat)*(Int.toNat c))<=m)/\(m<=((2:Nat)*(Int.toNat d))):=zzR 0xb624c4808668ac40bea00a28a840be005ae90a9a02168a82147a42fa8a040a8a04a02f82147 [a,b,c,d] [m] ⋯
theorem Y151:m<=n->p<(((2:Nat)*m)+(((2:Nat)*(n-m))+(1:Nat)))->p<=((2:Nat)*n):=zzM 0x535290bea8007da29042f80a02f8007da80007a68007 [m,n,p] ⋯
theorem Y152{a:Int}:a=((m:Nat):Int)->(Int.toNat a)=m:=zzR 0x15212468a28101a281280c7 [a] [m] ⋯
theorem Y153{a b:Int}:a=((m:Nat):Int)->b=((n:Nat):Int)->m<=n->n<=p->((Int.toNat a)<=(Int.toNat b))/\((Int.toNat b)<=p):=zzR 0x4a091100500a28a146aa29100a29128a04005aa9007a68007a291290c7a281280c7 [a,b] [m,n,p] ⋯
theorem Y154{a b:Int}:a=((m:Nat):Int)->a<b->(Int.toNat a)<(Int.toNat b):=zzR 0x4a45151128a4407da2810002907da00087a281280c7 [a,b] [m] ⋯
theorem Y155{a b:Int}:a=((m:Nat):Int)->((2:Nat)*m)<=(((2:Nat)*n)+(1:Nat))->((n:Nat):Int)<b->((c<=d)/\((d<=b)/\(b<=e)))->e<a->fm:=zzR 0xd8d3a2807db00087b290a9ac216ba82147a41f68a440021c1f690be0280be007a281280c7 [a,b,c,d,e] [m,n] ⋯
theorem Y156{a b:Int}:a=((m:Nat):Int)->(((2:Nat)*n)+(1:Nat))<=((2:Nat)*m)->b<=((n:Nat):Int)->((c<=b)/\((b<=d)/\(d<=e)))->a<c->fm:=zzR 0x31b5a8a81f680021ecac2ae9085a6a0851e8a44a421e80be07da42f80007a281280c7 [a,b,c,d,e] [m,n] ⋯
theorem Y157{a b:Int}:a=((m:Nat):Int)->((2:Nat)*n)<=((2:Nat)*m)->b=((n:Nat):Int)->b<=a:=zzR 0x335a8a42a291290c7a02fa90be007a281280c7 [a,b] [m,n] ⋯
theorem Y158{a b:Int}:a=((m:Nat):Int)->((2:Nat)*m)<=((2:Nat)*n)->b=((n:Nat):Int)->a<=b:=zzR 0x364e9a02a291290c7a42fa80be007a281280c7 [a,b] [m,n] ⋯
theorem Y159{a:Int}:a<=((m:Nat):Int)->(Int.toNat a)<=m:=zzR 0x2268a28100a28128087 [a] [m] ⋯
theorem Y164{a:Int}:((2:Nat)*(Int.toNat a))<=((2:Nat)*m)->(Int.toNat a)<=m:=zzR 0x1932d96ca8a28100a02fa8a040be007 [a] [m] ⋯
theorem Y165{a:Int}:(Int.toNat a)<=m->((2:Nat)*(Int.toNat a))<=((2:Nat)*m):=zzR 0x1326d369a80bea28102f80a28a04007 [a] [m] ⋯
theorem Y166{a:Int}:((2:Nat)*m)<=((2:Nat)*(Int.toNat a))->m<=(Int.toNat a):=zzR 0x19369b4ca8a04a00a28102fa80be007 [a] [m] ⋯
theorem Y167{a:Int}:m<=(Int.toNat a)->((2:Nat)*m)<=((2:Nat)*(Int.toNat a)):=zzR 0x132d96c9a8a040bea02f80a28128007 [a] [m] ⋯
theorem Y168:(m+n)=(((2:Nat)*p)+(1:Nat))->((((2:Int)*((p:Nat):Int))+(1:Int))-((n:Nat):Int))=((m:Nat):Int):=zzM 0x4aa8a04a29101f68a840be0010c1f6a0be029a00047 [m,n,p] ⋯
theorem Y169{a:Int}:a=((m:Nat):Int)->((2:Nat)*n)<=((2:Nat)*(Int.toNat a))->((2:Nat)*(Int.toNat a))<((2:Nat)*(n+(1:Nat)))->((n:Nat):Int)=a:=zzR 0x1a31899a06686b0621a06228a2910307da400be07da28102f80007a28102fa90be007a281280c7 [a] [m,n] ⋯
theorem Y171{a b:Int}:a=((m:Nat):Int)->((2:Int)*b)<=((((2:Nat)*(Int.toNat a)):Nat):Int)->b<=a:=zzR 0x699a28a42a28a040be1290be087a281280c7 [a,b] [m] ⋯
theorem Y172{a b:Int}:a=((m:Nat):Int)->a<=b->((((2:Nat)*(Int.toNat a)):Nat):Int)<=((2:Int)*b):=zzR 0x4d93290bea28a040be102a68087a281280c7 [a,b] [m] ⋯
theorem Y174:(Int.toNat (((m:Nat):Int)-((n:Nat):Int)))=(m-n):=zzM 0x1112a4a9129a01a28a44a28101101 [m,n] ⋯
theorem Y175:m<(100000:Nat)->((m:Nat):Int)<(1000000:Int):=zzM 0x15ec3283d07da2810008387583d07da00007 [m] ⋯
theorem Y176:(-(1000000:Int))<((m:Nat):Int):=zzM 0x1a28101f687b0ca0f45002 [m] ⋯
theorem Y180:m<(1000:Nat)->(((2:Nat)*m)+(1:Nat))<(100000:Nat):=zzM 0xb0e1d60f41f41f680be00001fa3d07da00007 [m] ⋯
theorem Y182{a b:Int}:((min ((2:Int)*((m:Nat):Int)) ((2:Int)*(a+b)))+(1:Int))=((n:Nat):Int)->((n:Nat):Int)=(((p+q):Nat):Int)->((r:Nat):Int)<=(min ((2:Int)*((m:Nat):Int)) ((2:Int)*(a+b)))->r<(p+q):=zzR 0x5125492a4944aba8007db00029a000bea28102f83a2c1021e8aea004a291031e8a4407da68002fa8a040be0c00c7 [a,b] [m,n,p,q,r] ⋯
theorem Y183{a b:Int}:((min ((2:Int)*((m:Nat):Int)) ((2:Int)*(a+b)))+(1:Int))=((n:Nat):Int)->((n:Nat):Int)=(((p+q):Nat):Int)->r<(p+q)->((r:Nat):Int)<=(min ((2:Int)*((m:Nat):Int)) ((2:Int)*(a+b))):=zzR 0x4a44a4a5252929a000bea28102f83a2c102aea001f6c0001e8aea004a291031e8a4407da68002fa8a040be0c00c7 [a,b] [m,n,p,q,r] ⋯
theorem Y184{a b:Int}:(max (0:Int) ((2:Int)*(a-b)))=((m:Nat):Int)->(max (0:Int) ((2:Int)*(a-b)))<=((n:Nat):Int)->m<=n:=zzR 0x522a8aa2929a00a29129a010be03d0821e8a04a68042f80f420c7 [a,b] [m,n] ⋯
theorem Y185{a b:Int}:(max (0:Int) ((2:Int)*(a-b)))=((m:Nat):Int)->m<=n->(max (0:Int) ((2:Int)*(a-b)))<=((n:Nat):Int):=zzR 0x4924a92a4a8a44a68042f80f420a9a001e8a04a68042f80f420c7 [a,b] [m,n] ⋯
theorem Y186{a b:Int}:(0:Int)<=a->(((0:Int)<=b)/\((b<=c)/\(c<=((m:Nat):Int))))->(max (0:Int) ((2:Int)*(b-a)))=((n:Nat):Int)->((min ((2:Int)*((m:Nat):Int)) ((2:Int)*(c+a)))+(1:Int))=((p:Nat):Int)->(((n:Nat):Int)+(((p-n):Nat):Int))=((p:Nat):Int):=zzR 0x92366491b340020009219e490cf40020009236c491b64002000921b6490db40020028a84a29a81128a44003a2a101f68a800bea28102f830031e8a44a29042f80f420c7a2812a0aaa4216903d0851e803d087 [a,b,c] [m,n,p] ⋯
theorem Y187{a b:Int}:((min ((2:Int)*((m:Nat):Int)) ((2:Int)*(a+b)))+(1:Int))=((n:Nat):Int)->((n:Nat):Int)<=(((2:Int)*((m:Nat):Int))+(1:Int)):=zzR 0x28a41f68a040be028a440a8a4407da68002fa8a040be0c00c7 [a,b] [m,n] ⋯
theorem Y188{a b:Int}:m<(1000:Nat)->((min ((2:Int)*((m:Nat):Int)) ((2:Int)*(a+b)))+(1:Int))=((n:Nat):Int)->n<(100000:Nat):=zzR 0x28d4b0e1d60f41f69000a29101f69a000bea28102f830031dfa3d07da00007 [a,b] [m,n] ⋯
theorem Y189{a b:Int}:(0:Int)<=a->(((0:Int)<=b)/\((b<=c)/\(c<=((m:Nat):Int))))->(max (0:Int) ((2:Int)*(b-a)))=((n:Nat):Int)->((min ((2:Int)*((m:Nat):Int)) ((2:Int)*(c+a)))+(1:Int))=((p:Nat):Int)->n<=p:=zzR 0x1246cd2433d246d92436eaa40a2a101f68a800bea28102f830031e8a44a29042f80f420c7a2812a0aaa4216903d0851e803d087 [a,b,c] [m,n,p] ⋯
theorem Y190{a b:Int}:(0:Int)<=a->(((0:Int)<=b)/\((b<=c)/\(c<=((m:Nat):Int))))->((min ((2:Int)*((m:Nat):Int)) ((2:Int)*(c+a)))+(1:Int))=(((Int.toNat ((min ((2:Int)*((m:Nat):Int)) ((2:Int)*(c+a)))+(1:Int))):Nat):Int):=zzR 0x8db11b64020086d90db48110236c46d92044086d90db402028a01f68a800bea28102f83004101f68a800bea28102f83003a2812a0aaa4216903d0851e803d087 [a,b,c] [m] ⋯
theorem Y193{n:Nat}:m<=(m+n):=zzM 0x69a00a00 [m,n] ⋯
theorem Y194:m<(n+p)->m<(n+(p+(1:Nat))):=zzM 0x507da80a4007da0002aa4007da00007 [m,n,p] ⋯
theorem Y196:((((m+n):Nat):Int)+(1:Int))=(((m+(n+(1:Nat))):Nat):Int):=zzM 0x16807da40a00101f68a68004003 [m,n] ⋯
theorem Y197{a:Int}:a<=(((2:Int)*((m:Nat):Int))+(1:Int))->(((n+p):Nat):Int)<a->(n+p)<(((2:Nat)*m)+(1:Nat)):=zzR 0x541f680be001f6aa40000a01f68aa90040021c1f68a040be028087 [a] [m,n,p] ⋯
theorem Y198:m<(100000:Nat)->m<(1000000:Nat):=zzM 0x15ec3283d07da0000387583d07da00007 [m] ⋯
theorem Y205:m<(100000:Nat)->n=p->n<=m->p<(1000000:Nat):=zzM 0x2a5ec3283d07da80028a401eaa411c387583d07da00007 [m,n,p] ⋯
theorem Y207:(-(1000000:Int))<(((((2:Nat)*m)+(1:Nat)):Nat):Int):=zzM 0x6807da02f80101f687b0ca0f45002 [m] ⋯
theorem Y208:m<(1000:Nat)->m<(100000:Nat):=zzM 0x14387583d07da0001fa3d07da00007 [m] ⋯
theorem Y209{a b:Int}:((m:Nat):Int)<=((n:Nat):Int)->((a<=b)/\(b<=((m:Nat):Int)))->(a<=b)/\(b<=((n:Nat):Int)):=zzR 0x294a8a44a42a68085a281290a9a02147a29128a04087 [a,b] [m,n] ⋯
theorem Y212:m<(1000:Nat)->n=(((2:Nat)*m)+(1:Nat))->n<(100000:Nat):=zzM 0x4b0e1d60f41f6900007da02f80a411dfa3d07da00007 [m,n] ⋯
theorem Y213{a:Int}:m=(((2:Nat)*n)+(1:Nat))->((p:Nat):Int)<=((q:Nat):Int)->((((q:Nat):Int)<=((n:Nat):Int))/\(a<=((r:Nat):Int)))->((2:Nat)*p)<m:=zzR 0x136a807da82f80028b04a02a29128ac40851e8ac4a2a1021c1f690be028047 [a] [m,n,p,q,r] ⋯
theorem Y214{a:Int}:((((m:Nat):Int)<=((n:Nat):Int))/\(a<=((p:Nat):Int)))->a<=((p:Nat):Int):=zzR 0x2a8a84a02a2a1280a8a44a28102147 [a] [m,n,p] ⋯
theorem Y216:m<(1000:Nat)->m<(1000000:Nat):=zzM 0x15ec3283d07da0001fa3d07da00007 [m] ⋯
theorem Y217{a b:Int}:a=((m:Nat):Int)->a<=b->b=(((Int.toNat b):Nat):Int):=zzR 0x94a10428a29104a43a68087a281280c7 [a,b] [m] ⋯
theorem Y218{a b:Int}:((a<=b)/\(b<=((m:Nat):Int)))->(a<=b)/\(b<=(((m:Nat):Int)+((n:Nat):Int))):=zzR 0x5268a44a28100a42a68085a281290a9a02147 [a,b] [m,n] ⋯
theorem Y219{a b:Int}:(0:Int)<((m:Nat):Int)->((a<=b)/\(b<=((n:Nat):Int)))->a<(((n:Nat):Int)+((m:Nat):Int)):=zzR 0x55a28128a44001f68002a291290a9a02147a28101f40f40087 [a,b] [m,n] ⋯
theorem Y220:(((m+n):Nat):Int)=((p:Nat):Int)->p=(m+n):=zzM 0x4aa9a00a81a2a128a680040c7 [m,n,p] ⋯
theorem Y222{a:Int}:(((((m:Nat):Int)+((n:Nat):Int))<=((p:Nat):Int))/\((a+((n:Nat):Int))<=((q:Nat):Int)))->(m+n)<=p:=zzR 0x26aa68000a2b128a44a000a8a84a29128a04002147 [a] [m,n,p,q] ⋯
theorem Y223{a:Int}:m<(1000:Nat)->(((((n:Nat):Int)+((p:Nat):Int))<=((m:Nat):Int))/\((a+((p:Nat):Int))<=((q:Nat):Int)))->(n+p)<(100000:Nat):=zzR 0x94387583d07daa9000028ac4a2a128002a28128a84a291000851dfa3d07da00007 [a] [m,n,p,q] ⋯
theorem Y225{a:Int}:m<=n->a<=((m:Nat):Int)->a<=((n:Nat):Int):=zzR 0x568a44a02a28128087a68007 [a] [m,n] ⋯
theorem Y227:m=(((2:Nat)*n)+(1:Nat))->p<n->(((2:Nat)*p)+(1:Nat))<m:=zzM 0x16a807d07da82f80000a41f6a0001c1f690be028047 [m,n,p] ⋯
theorem Y228:m<n->((m:Nat):Int)<((n:Nat):Int):=zzM 0x168a4407da281000a907da00007 [m,n] ⋯
theorem Y229:m<=n->((p:Nat):Int)<((m:Nat):Int)->p<n:=zzM 0x56907da80028a0407da2a100087a68007 [m,n,p] ⋯
theorem Y234{a:Int}:a=((m:Nat):Int)->a<((m:Nat):Int)->fm:=zzR 0xaa28a0407da00087a281280c7 [a] [m] ⋯
theorem Y238{a b:Int}:((a<=((m:Nat):Int))/\(((m:Nat):Int)<b))->b<=((m:Nat):Int)->fm:=zzR 0xaa28a04a421e907da281000a8a04a02147 [a,b] [m] ⋯
theorem Y240:m<=n->((m:Nat):Int)<=((n:Nat):Int):=zzM 0x168a44a28102a68007 [m,n] ⋯
theorem Y241:((m:Nat):Int)<=((n:Nat):Int)->m<=n:=zzM 0x169a00a29128a04087 [m,n] ⋯
theorem Y242:m<(10000:Nat)->(n+p)=m->n<(100000:Nat):=zzM 0x250e1d60f41f69000a2aa40047278c3d07da00007 [m,n,p] ⋯
theorem Y246:((m<=n)/\(n<=((2:Nat)*p)))->((2:Nat)*q)<=n->n<((2:Nat)*(q+(1:Nat)))->((q:Nat):Int)<=((p:Nat):Int):=zzM 0x32a8a84a2b10207dac00be07da40007a6b0be007a82fa9029a00147 [m,n,p,q] ⋯
theorem Y247:((m<=n)/\(n<=((2:Nat)*p)))->((2:Nat)*q)<=m->m<((2:Nat)*(q+(1:Nat)))->((2:Nat)*r)<=n->n<((2:Nat)*(r+(1:Nat)))->((q:Nat):Int)<=((r:Nat):Int):=zzM 0x1a268b04a2b10207db000be07da40007a6c0be00707dac00be07da00007a2b0be007a82fa9029a00147 [m,n,p,q,r] ⋯
theorem Y248:((m<=(1000:Nat))/\(n<=(1000:Nat)))->(m+n)<=(2000:Nat):=zzM 0x1507ec3da680007e8f6901fa3da00147 [m,n] ⋯
theorem Y249:((m<=(1000:Nat))/\(n<=(1000:Nat)))->(m+n)<(100000:Nat):=zzM 0x150e1d60f41f69a000007e8f6901fa3da00147 [m,n] ⋯
theorem Y250:((m<=(1000:Nat))/\(n<=(1000:Nat)))->(m+n)<(1000000:Nat):=zzM 0x157b0ca0f41f69a000007e8f6901fa3da00147 [m,n] ⋯
theorem Y252:m<(64:Nat)->m<(1000:Nat):=zzM 0x15fa3d07da0000283d07da00007 [m] ⋯
theorem Y254:m<(64:Nat)->m<(200:Nat):=zzM 0x146a3d07da0000283d07da00007 [m] ⋯
theorem Y255{a:Int}:a=((m:Nat):Int)->(((Int.toNat a):Nat):Int)=a:=zzR 0x5124228a28a04103a281280c7 [a] [m] ⋯
theorem Y257:m<(10000:Nat)->n=p->(p+q)=m->n<(10000:Nat):=zzM 0x4949e30f41f69000a2ba80047aa9047278c3d07da00007 [m,n,p,q] ⋯
theorem Y258:m<(1000:Nat)->n<=m->n<(1000000:Nat):=zzM 0x55ec3283d07da40028a401dfa3d07da00007 [m,n] ⋯
theorem Y259{a b:Int}:(((0:Int)<=a)/\(a<=b))->b<=c->a<=c:=zzI 0x2aaa80aaa421e9a02a00f42147 [a,b,c] ⋯
theorem Y260{a b f:Int}:m<(1000:Nat)->a<=((m:Nat):Int)->(((0:Int)<=b)/\(b<=c))->d=c->((e<=f)/\(g<=a))->((n:Nat):Int)=(c-b)->((p:Nat):Int)=(g-d)->(n+p)<(1000000:Nat):=zzR 0x929157b0ca0f41f6aa40000aee068a840c7a6a068a440c7a2e0adb02147aab0c7aa90a903d0851e8a04a021dfa3d07da00007 [a,b,c,d,e,f,g] [m,n,p] ⋯
theorem Y261{a b:Int}:a<=((m:Nat):Int)->((b<=c)/\(d<=a))->d<=((m:Nat):Int):=zzR 0xa68a04ac2a2b0aaa42147a28128087 [a,b,c,d] [m] ⋯
theorem Y262{a b:Int}:(((0:Int)<=a)/\(a<=b))->c=b->(0:Int)<=c:=zzI 0x296a03d0a9a831e9a02a00f42147 [a,b,c] ⋯
theorem Y263{a b f:Int}:a<=((m:Nat):Int)->b=c->b<=d->((e<=f)/\(d<=a))->c<=((m:Nat):Int):=zzR 0x14a68a04a82a2b0adb02147ae9087aa90c7a28128087 [a,b,c,d,e,f] [m] ⋯
theorem Y264{a b g:Int}:m<(1000:Nat)->a<=((m:Nat):Int)->(((0:Int)<=b)/\(b<=c))->d=c->((e<=a)/\(f<=g))->((n:Nat):Int)=(c-b)->((p:Nat):Int)=(e-d)->(n+p)<(1000000:Nat):=zzR 0x925157b0ca0f41f6aa40000aec068a840c7a6a068a440c7bad0a8b02147aab0c7aa90a903d0851e8a04a021dfa3d07da00007 [a,b,c,d,e,f,g] [m,n,p] ⋯
theorem Y265{a b d:Int}:a<=((m:Nat):Int)->((b<=a)/\(c<=d))->b<=((m:Nat):Int):=zzR 0x968a04a42aea0a8a42147a28128087 [a,b,c,d] [m] ⋯
theorem Y266{a b f:Int}:a<=((m:Nat):Int)->b=c->b<=d->((d<=a)/\(e<=f))->c<=((m:Nat):Int):=zzR 0x12a68a04a82b6c0a8ac2147ae9087aa90c7a28128087 [a,b,c,d,e,f] [m] ⋯
theorem Y271:m<(1000:Nat)->((n:Nat):Int)<=((m:Nat):Int)->(n-p)<(1000:Nat):=zzM 0x1095fa3d07daa9040028a04a291021dfa3d07da00007 [m,n,p] ⋯
theorem Y272{a:Int}:((m:Nat):Int)<=a->a=(((Int.toNat a):Nat):Int):=zzR 0x4a9128a28104a03a28a04087 [a] [m] ⋯
theorem Y273{a b:Int}:(0:Int)<=a->b<=((m:Nat):Int)->n<(Int.toNat (b-a))->((Int.toNat a)+n)<m:=zzR 0x120424a92a01f69a28100000a28a41101f690001e8a04a421e803d087 [a,b] [m,n] ⋯
theorem Y274{a b:Int}:((m:Nat):Int)=(a-b)->m=(Int.toNat (a-b)):=zzR 0x10a52468a68044a01a68068a040c7 [a,b] [m] ⋯
theorem Y275:m<=(1:Nat)->¬((n+(6:Nat))=((n+(3:Nat))+m)):=zzM 0x5a280fda40006f69001101f68007 [m,n] ⋯
theorem Y277:m<=(1:Nat)->¬((n+m)=((n+(3:Nat))+p)):=zzM 0x268a83f69000a29001101f68007 [m,n,p] ⋯
theorem Y278: ¬((m+n)=((m+(3:Nat))+n)):=zzM 0x2a290fda00029a00044 [m,n] ⋯
theorem Y279:m<=(1:Nat)->¬((n+(6:Nat))=(n+m)):=zzM 0x168a29006f69001101f68007 [m,n] ⋯
theorem Y281{p:Nat}: ¬(m=n)->¬((p+m)=(p+n)):=zzM 0x4968a6a028a80044a29a01107 [m,n,p] ⋯
theorem Y283:m<=(1:Nat)->¬(((n+(3:Nat))+m)=(n+(6:Nat))):=zzM 0x9a06f690280fda40001101f68007 [m,n] ⋯
theorem Y284:m<=(1:Nat)->¬((n+m)=(n+(6:Nat))):=zzM 0x2681bda40a29001101f68007 [m,n] ⋯
theorem Y287:m<=(1:Nat)->¬((n+m)=(n+(5:Nat))):=zzM 0x26817da40a29001101f68007 [m,n] ⋯
theorem Y290:m<=(1:Nat)->¬((n+m)=(n+(2:Nat))):=zzM 0x2680bda40a29001101f68007 [m,n] ⋯
theorem Y291:(m+(n+(1:Nat)))<=p->((m+(1:Nat))+n)<=p:=zzM 0x16aa41f6800002a07da40a00007 [m,n,p] ⋯
theorem Y293{p:Nat}:m<=n->m<=(max n p):=zzM 0xaa6aa42a00a68007 [m,n,p] ⋯
theorem Y294{q:Nat}:m<=n->((p<=q)/\(q<=n))->(max m q)<=n:=zzM 0x48869ae8080a6b02ba80147a68007 [m,n,p,q] ⋯
theorem Y299:(m+(n+(1:Nat)))<=p->p<(200:Nat)->m<(1000000:Nat):=zzM 0x157b0ca0f41f680001a8f41f6a0001ea07da40a00007 [m,n,p] ⋯
theorem Y300:m<=((128:Nat)*(200:Nat))->n<(64:Nat)->p<(64:Nat)->(m+(p+n))<(1000000:Nat):=zzM 0x155ec3283d07da6a02800000283d07da800070a0f41f690001c6a3d120fa8007 [m,n,p] ⋯
theorem Y302:((m<=n)/\(n<=p))->((m:Nat):Int)<=((p:Nat):Int):=zzM 0x568a84a28102aa9029a00147 [m,n,p] ⋯
theorem Y303:m<(64:Nat)->m<(1000000:Nat):=zzM 0x15ec3283d07da0000283d07da00007 [m] ⋯
theorem Y305:(m+(n+(1:Nat)))<=p->p<(200:Nat)->m<=(200:Nat):=zzM 0x546a3da001a8f41f6a0001ea07da40a00007 [m,n,p] ⋯
theorem Y306:m<(200:Nat)->m<(100000:Nat):=zzM 0x14387583d07da00006a3d07da00007 [m] ⋯
theorem Y308:(m+(1:Nat))<=(n+(1:Nat))->m<=n:=zzM 0x169a0007da4007da00007 [m,n] ⋯
theorem Y309:(m+(1:Nat))<=n->n=((n-(1:Nat))+(1:Nat)):=zzM 0x12a4407d07da4102906907da00007 [m,n] ⋯
theorem Y314:(m+(n+(1:Nat)))=p->m<p:=zzM 0x26a07da0002a07da40a00047 [m,n,p] ⋯
theorem Y315:(m+(0:Nat))=n->¬(m<n):=zzM 0x2a8a41f6800012903da00047 [m,n] ⋯
theorem Y318:(m+(n+(1:Nat)))<=p->(q+r)=(n+(1:Nat))->(1:Nat)<=q->((m+(1:Nat))+r)<=p:=zzM 0x296ab01f6800002b07d00707da40b2b0011ea07da40a00007 [m,n,p,q,r] ⋯
theorem Y319:(m+(1:Nat))=n->(p+q)=(m+(1:Nat))->(1:Nat)<=p->q<n:=zzM 0x526907dac002a07d00707da00aea0011e907da00047 [m,n,p,q] ⋯
theorem Y320{p:Nat}:m<n->¬(m=(n+p)):=zzM 0x9a2aa40a0112907da00007 [m,n,p] ⋯
theorem Y321:m<=n->n<=p->((m:Nat):Int)<=((p:Nat):Int):=zzM 0x568a84a28102aa9007a68007 [m,n,p] ⋯
theorem Y322:m<=((128:Nat)*(200:Nat))->m<(900000:Nat):=zzM 0x15bbbd83d07da00006a3d120fa8007 [m] ⋯
theorem Y323:m<(200:Nat)->(n+p)<=m->n<=(200:Nat):=zzM 0x151a8f69028aa90001c6a3d07da00007 [m,n,p] ⋯
theorem Y324:(m+(n+(1:Nat)))<=p->((0:Nat)+(n+(1:Nat)))<=p:=zzM 0x5a81f69000f4002a07da40a00007 [m,n,p] ⋯
theorem Y326:m<(64:Nat)->(((2:Nat)*m)+(1:Nat))<(100000:Nat):=zzM 0xb0e1d60f41f41f680be00000283d07da00007 [m] ⋯
theorem Y329:m<(64:Nat)->m<(100000:Nat):=zzM 0x14387583d07da0000283d07da00007 [m] ⋯
theorem Y333:m<(1000:Nat)->m<(10000:Nat):=zzM 0x5278c3d07da0001fa3d07da00007 [m] ⋯
theorem Y334:((m+n)+p)=q->q<(64:Nat)->n<(1000000:Nat):=zzM 0xa5ec3283d07da4000283d07dac0007aeaa68000047 [m,n,p,q] ⋯
theorem Y340:(m+(1:Nat))<n->((2:Nat)*p)<=m->m<((2:Nat)*(p+(1:Nat)))->((2:Nat)*p)<=n:=zzM 0x969a82f8007da800be07da00007a2a0be007a41f41f68000007 [m,n,p] ⋯
theorem Y341:((m<=n)/\(n<(((2:Nat)*p)+(1:Nat))))->((2:Nat)*q)<=n->n<((2:Nat)*(q+(1:Nat)))->q<=p:=zzM 0x32aaac007dac00be07da40007a6b0be00707da82f8007da40029a00147 [m,n,p,q] ⋯
theorem Y343:((m<=n)/\(n<(((2:Nat)*p)+(1:Nat))))->((2:Nat)*q)<=n->n<((2:Nat)*(q+(1:Nat)))->((q:Nat):Int)<=((p:Nat):Int):=zzM 0x32a8a84a2b10207dac00be07da40007a6b0be00707da82f8007da40029a00147 [m,n,p,q] ⋯
theorem Y344:((m<=n)/\(n<(((2:Nat)*p)+(1:Nat))))->((2:Nat)*q)<=m->m<((2:Nat)*(q+(1:Nat)))->((2:Nat)*r)<=n->n<((2:Nat)*(r+(1:Nat)))->((q:Nat):Int)<=((r:Nat):Int):=zzM 0x1a268b04a2b10207db000be07da40007a6c0be00707dac00be07da00007a2b0be00707da82f8007da40029a00147 [m,n,p,q,r] ⋯
theorem Y345:((m<=n)/\(n<(((2:Nat)*p)+(1:Nat))))->((2:Nat)*q)<=m->m<((2:Nat)*(q+(1:Nat)))->((q:Nat):Int)<=((p:Nat):Int):=zzM 0x6568a84a2b10207dac00be07da00007a2b0be00707da82f8007da40029a00147 [m,n,p,q] ⋯
theorem Y346:((2:Nat)*m)<=n->((2:Nat)*p)<=n->n<((2:Nat)*(p+(1:Nat)))->((m:Nat):Int)<=((p:Nat):Int):=zzM 0x1a68a84a2810207da800be07da40007a6a0be007a680be007 [m,n,p] ⋯
theorem Y347: ¬(m=n)->¬(((m:Nat):Int)=((n:Nat):Int)):=zzM 0x4968a29128a040c4a29a01107 [m,n] ⋯
theorem Y348:(((((2:Nat)*(((1000:Nat)*m)+n))+(1:Nat)):Nat):Int)<(((((2:Nat)*(((1000:Nat)*m)+n))+(0:Nat)):Nat):Int)->fm:=zzM 0x1a2803da687e8f800be00407da01f69a1fa3e002f80100087 [m,n] ⋯
theorem Y349:(m+n)=(((2:Nat)*p)+(1:Nat))->q<=(200:Nat)->p<=r->r<=q->m<(1000:Nat):=zzM 0x5b65fa3d07da0002bb001eca801c6a3dac01c1f6a0be029a00047 [m,n,p,q,r] ⋯
theorem Y353:((m<=n)/\((n<=p)/\(p<=q)))->(r+(p+(1:Nat)))<=(q+(1:Nat))->((r+(1:Nat))+m)<=(q+(1:Nat)):=zzM 0x2941f6b02807db0000007dac007da80b00007aea02aa40169a00147 [m,n,p,q,r] ⋯
theorem Y358:m<(64:Nat)->n<=(m+(1:Nat))->n<(1000:Nat):=zzM 0x157e8f41f6900007da00a401c283d07da00007 [m,n] ⋯
theorem Y359:(m+n)<(1000000:Nat)->(p+(q+(1:Nat)))=n->(m+p)<(1000000:Nat):=zzM 0x257b0ca0f41f6aa00000a41f6b02a0011dec3283d07da68000007 [m,n,p,q] ⋯
theorem Y360:(m+n)<(1000:Nat)->(m+n)<(1000000:Nat):=zzM 0x15ec3283d07da6800001fa3d07da68000007 [m,n] ⋯
theorem Y362:(m+n)=p->p<(64:Nat)->(m+n)<(1000000:Nat):=zzM 0xa5ec3283d07da6800000283d07da80007aa9a00047 [m,n,p] ⋯
theorem Y363:(m+n)=p->p<(64:Nat)->m<(1000:Nat):=zzM 0xa5fa3d07da0000283d07da80007aa9a00047 [m,n,p] ⋯
theorem Y365:m<=(24:Nat)->m<(64:Nat):=zzM 0x14283d07da00018f68007 [m] ⋯
theorem Y368:m<=(24:Nat)->n<=(m+(1:Nat))->n<(64:Nat):=zzM 0x150a0f41f6900007da00a401d8f68007 [m,n] ⋯
theorem Y369:m=n->n<=(p+(1:Nat))->m<=(p+(1:Nat)):=zzM 0xa41f6a028001f6a029007a68047 [m,n,p] ⋯
theorem Y371{a:Int}:(0:Int)<=a->a<(3:Int)->((0:Int)<=a)/\(a<(1000:Int)):=zzI 0x1497e8f41f68002a00f42143f41f680021e803d087 [a] ⋯
theorem Y372:m=(24:Nat)->m<=(24:Nat):=zzM 0x258f68018f68047 [m] ⋯
def cel(a b:aq Int)(cs:aq Op)(p:Nat):aq Int:=bif p%2==1 then(bif cs.any (λc=>decide (c.i1<=((p/2:Nat):Int)) && decide (((p/2:Nat):Int)<c.i2)) then [] else sl a ((p/2:Nat):Int) (((p/2:Nat):Int)+1))
 else cs.flatMap λc=>bif decide (c.i1=((p/2:Nat):Int)) then sl b c.j1 c.j2 else []
theorem ev2(k:Nat):2*k%2=0:=Nat.mul_mod_right 2 k
theorem od2(k:Nat):(2*k+1)%2=1:=Nat.mul_add_mod 2 k 1
theorem pne(t k:Nat): ¬2*t=2*k+1:=λe=>ca ((ev2 t).symm.trans ((cu (·%2) e).trans (od2 k))) (by decide)
def cat(f:Nat->aq Int)(p m:Nat):aq Int:=(List.range m).flatMap λt=>f (p+t)
theorem j8(f:Nat->aq Int)(p m:Nat):cat f p (m+1)=f p++cat f (p+1) m:=by
 delta cat
 rw[List.range_succ_eq_map,gj,List.flatMap_map]
 exact cu (f p++ ·) (cu (λg=>(List.range m).flatMap g) (funext λt=>cu f (zzM0 0x16907da00001f69028001 [p,t] ⋯)))
theorem kJ(f:Nat->aq Int):∀ (m p k:Nat),cat f p (m+k)=cat f p m++cat f (p+m) k:=λm=>by
 induction m with
 |zero=>intro p k;rw[Nat.zero_add];rfl
 |succ m a=>
  intro p k
  rw[Nat.add_right_comm,j8,j8,a,cz,show p+1+m=p+(m+1) by exact Y25]
theorem hV:∀ {m p:Nat},(∀ t,p<=t->t<p+m->f t=g t)->cat f p m=cat g p m:=λ{m}=>by
 induction m with
 |zero=>exact λq=>rfl
 |succ m c=>
  intro p h
  rw[j8,j8,h p (c5 _) Y32,c λt a b=>h t (Y30 a) (Y29 b)]
theorem k4(d:aq Op)(k:Nat):cel a b d (2*k+1)=bif d.any (λc=>decide (c.i1<=k) && decide ((k:Int)<c.i2)) then [] else sl a k (k+1):=by
 delta cel
 refine rwL (show (2*k+1)%2=1 from od2 k) (rwL (show (2*k+1)/2=k by exact Y36 zzD zzE) ?_);rfl
theorem f9(d:aq Op)(k:Nat):cel a b d (2*k)=d.flatMap λc=>bif decide (c.i1=(k:Int)) then sl b c.j1 c.j2 else []:=by
 delta cel
 refine rwL (show (2*k)%2=0 from ev2 k) (rwL (show (2*k)/2=k by exact Y35 zzD zzE) ?_);rfl
theorem lL{d:aq Op}{k:Nat}(h:∀ c∈d,¬(c.i1<=k/\(k:Int)<c.i2)):cel a b d (2*k+1)=sl a k (k+1):=by
 rw[k4,show d.any (λc=>decide (c.i1<=k) && decide ((k:Int)<c.i2))=aL from List.any_eq_false.mpr λc e q=>h c e (by
  exact⟨cn (cp.mp q).1,cn (cp.mp q).2⟩)];rfl
theorem f8{d:aq Op}{k:Nat}(h:∀ c∈d,c.i1≠k):cel a b d (2*k)= []:=by
 rw[f9]
 exact List.flatMap_eq_nil_iff.mpr λc e=>by rw[bw (h c e)];rfl
theorem par(p:Nat):∃ k,p=2*k\/p=2*k+1:=⟨p/2,Y34 zzD zzE⟩
theorem y5(h:Cq a b i j l x y):∀ {u v:Nat},i=u->x=v->0<=j->y<=b.length->x<=a.length->cat (cel a b (chg l)) (2*u) (2*(v-u)+1)=sl b j y:=by
 induction h with
 |nil=>
  intro u v n r _ _ _
  rw[show 2*(v-u)+1=0+1 by exact Y24 n r,j8,f9,lQ];rfl
 | @eq i j k x y l C m h D=>
  intro u v n r A F H
  obtain⟨w,M⟩:∃ w:Nat,k=w:=⟨k.toNat,Y23 C⟩
  have B:=h.le
  subst n M
  rw[cX rfl,show 2*(v-u)+1=2*w+(2*(v-(u+w))+1) by exact Y22 r B,kJ,show 2*u+2*w=2*(u+w) by exact (zzM0 0x169a000bea42fa80be001 [u,w] ⋯),D Y20 r (Y19 A) F H,(by
   exact λ{f}=>λ{m}=>by
     induction m with
     |zero=>intro k _ _;exact lQ.symm
     |succ m D=>
      intro k n r
      rw[show 2*(m+1)=2*m+1+1 by exact (zzM0 0x507d07da02f80001f68002f81 [m] ⋯),j8,j8,r k (c5 _) Y32,n k (c5 _) Y32,show 2*k+1+1=2*(k+1) by exact (zzM0 0x507da000be07d07da02f80001 [k] ⋯),D (λu d o=>n u (Y30 d) (Y29 o)) λu d o=>r u (Y30 d) (Y29 o)]
      rw[rA,show ((k:Int)+1)=((k+1:Nat):Int) by exact Y28,k9 Y27 (zzM0 0x68a41f6800012807da00102 [k,m] ⋯),show k+1+m=k+(m+1) by exact Y25]:∀{f:Nat->aq Int},∀ {m k:Nat},(∀ u,k<=u->u<k+m->f (2*u+1)=sl a u (u+1))->(∀ u,k<=u->u<k+m->f (2*u)= [])->cat f (2*k) (2*m)=sl a k (k+m:Nat)) (λt d o=>lL λc s q=>by exact Y18 o q (h.mem c s)) (λt d o=>f8 λc s q=>by exact Y17 o q (h.mem c s))]
  exact rwL (show ((u+w:Nat):Int)=(u:Int)+w by exact (zzM0 0x168a44a28100a29a00103 [u,w] ⋯)) (rwL ((by
   intro i j k m I A K N C
   have lb:=gS A (gV j C) N
   refine ql (A231 (gS I (gV i C) K) lb) λt n r=>?_
   have tk:=A232 lb r
   have n:=by exact A233 I K tk
   have:=m t (eO t) tk
   rw[aHt I n,aHt A (by exact A233 A N tk:j.toNat+t<b.length)]at this
   exact(List.getElem_take.trans List.getElem_drop).trans (this.trans (List.getElem_take.trans List.getElem_drop).symm):∀{i j k:Int}(m:Mt a b i j k)(I:0<=i)(A:0<=j)(K:i+k<=a.length)(N:j+k<=b.length)(C:0<=k),sl a i (i+k)=sl b j (j+k)) m Y13 A (Y15 H B) (Y14 F B) Y13) (k9 Y12 B.2))
 | @ch i j O J x y g l P G L h D=>
  intro u v n r A F H
  obtain⟨w,M⟩:∃ w:Nat,O=w:=⟨O.toNat,Y11 G n⟩
  have B:=h.le
  subst n M
  have E:=D rfl r (Y10 L A) F H
  rw[eX P]
  by_cases q:u=w
  ·subst q
   rw[j8]at E ⊢
   rw[f9,gj,<-f9]
   show((bif decide ((u:Int)=u) then sl b j J else [])++_)++_=_
   rw[bp rfl,f4,cz,hV λt d o=>?_,E]
   ·exact k9 L B.2
   ·obtain⟨z,rfl |rfl⟩:=par t
    ·rw[f9,f9,gj]
     show(bif decide ((u:Int)=z) then _ else [])++_=_
     rw[bw (zzM1 0x19a28a44a281031290be07da02f80007 [u,z] ⋯ d)];rfl
    ·rw[k4,k4,vL]
     show(bif (decide ((u:Int)<=z) && decide ((z:Int)<u)) || _ then _ else _)=_
     rw[bw (show¬(z:Int)<u by exact zzM1 0xda28a0407da2910008407da42f8007da02f80007 [u,z] ⋯ d),Bool.and_false,Bool.false_or]
  ·rw[show 2*(v-u)+1=(1+(2*(w-u)-1))+(2*(v-w)+1) by exact Y7 r B G q,kJ,kJ]
   rw[show cat (cel a b (chO g u j w J::chg l)) (2*u) 1=sl b j J from by
    rw[j8,f9,gj,<-f9 (a:=a),f8 λc s q=>by have Q:=h.mem c s;omega]
    show((bif decide ((u:Int)=u) then sl b j J else [])++[])++[]=_
    rw[bp rfl,c6,c6];rfl]
   rw[(by
    intro f m p h
    exact rwL (hV h) (List.flatMap_eq_nil_iff.mpr λR R=>rfl):∀{f:Nat->aq Int}{m p:Nat}(h:∀ t,p<=t->t<p+m->f t= []),cat f p m= []) (λt d o=>?_),c6,show 2*u+(1+(2*(w-u)-1))=2*w by exact zzM2 0x50a142898990402850a142850a1690be07da29042f8107d0280be001a29a01107a29128a04087 [u,w] ⋯ G q,hV λt d o=>?_,E]
   ·exact k9 L B.2
   ·obtain⟨z,rfl |rfl⟩:=par t
    ·rw[f9,f9,gj]
     show(bif decide ((u:Int)=z) then _ else [])++_=_
     rw[bw (zzM3 0x32c168a2a128a040c4a82fa90be007a29a01107a29128a04087 [u,w,z] ⋯ G q d)];rfl
    ·rw[k4,k4,vL]
     show(bif (decide ((u:Int)<=z) && decide ((z:Int)<w)) || _ then _ else _)=_
     rw[bw (show¬(z:Int)<w by exact zzM1 0x368a28101f68a44002101f690be0280be007 [w,z] ⋯ d),Bool.and_false,Bool.false_or]
   ·obtain⟨z,rfl |rfl⟩:=par t
    ·refine f8 λc s e=>?_
     rcases du.mp s with rfl |s
     ·exact zzM2 0x19a28a44a281031e90be07da02f80007 [u,z] ⋯ d e
     ·exact Y2 d o e (h.mem c s)
    ·rw[k4,vL]
     show(bif (decide ((u:Int)<=z) && decide ((z:Int)<w)) || _ then _ else _)=_
     rw[bp (show(u:Int)<=z by exact zzM1 0x368a44a2810207da42f8007da02f80007 [u,z] ⋯ d),bp (show(z:Int)<w by exact zzM2 0x2221168a2a101f68a4400207da2a042f8107da02f80001f41f690be00000707da42f8007da02f80007 [u,z,w] ⋯ d o)];rfl
structure GrP(a b:aq Int)(g:aq Op):Prop where
 c:Cq a b (s1 g) (t1 g) g (s2 g) (t2 g)
 i0:0<=s1 g
 j0:0<=t1 g
 ia:s2 g<=a.length
 jb:t2 g<=b.length
structure GrS(a b:aq Int)(s:cw)(e:Int)(gs:aq (aq Op)):Prop where
 g:∀ g∈gs,GrP a b g
 p:gs.Pairwise λg g'=>s2 g<s1 g'
 e:∀ g∈gs,e<=s1 g/\(s=be->e<s1 g)
theorem GL.grs(h:GL a b s e f j):0<=e->0<=f->GrS a b s e j:=by
 induction h with
 |nil=>exact λq q=>⟨λq h=>ca h cx,.nil,λq h=>ca h cx⟩
 | @cons s e f t x y g j i st m c l h n=>
  intro e0 k
  have d:=c.hd l
  have la:=c.last l
  have cl:=c.le
  have I:=n (zzI3 0x95a80f42b28ac00aaa29002147a40f421e803d087 [t,e,x,f,y] ⋯ i e0 cl) (zzI3 0xa5b00f42b28a400aba2a002147a40f421e803d087 [t,f,e,x,y] ⋯ i k cl)
  refine⟨λu hu=>?_,c3.mpr ⟨λu hu=>?_,I.p⟩,λu hu=>?_⟩
  ·rcases du.mp hu with rfl |hu
   ·exact⟨rwL d.1 (rwL d.2 (rwL la.1 (rwL la.2 c))),zzI3 0x225a80f42a2c02b0e8a40a83147a40f421e803d087 [t,e,s1 u,t1 u,f] ⋯ i e0 d,zzI3 0x285b00f42a2902c0e8ac0a83147a40f421e803d087 [t,f,s1 u,e,t1 u] ⋯ i k d,Y53 h.le la,Y52 h.le la⟩
   ·exact I.g u hu
  ·rw[la.1];exact(I.e u hu).2 rfl
  ·rcases du.mp hu with rfl |hu
   ·exact⟨zzI2 0x89a6a0a8b00ac3a2a0290c51e803d087 [t,s1 u,e,t1 u,f] ⋯ i d,λz=>by exact zzI2 0xa2a01f69002a81f40f40087aac02b0eaa40a03147 [s1 u,e,t,t1 u,f] ⋯ d (st z)⟩
   ·exact⟨zzI3 0xa5b690ada821eca2b002aa8a400851e803d087 [t,e,x,f,y,s1 u] ⋯ i cl (I.e u hu).1,λz=>by exact zzI3 0xa9b41f68002a41f40f40087b6a087b29ac00aaa68002147 [e,t,x,f,y,s1 u] ⋯ cl (I.e u hu).1 (st z)⟩
theorem GL.ne(h:GL a b s e f d):∀ g∈d,g≠ []:=by
 induction h with
 |nil=>exact λl h=>ca h cx
 |cons k st m c i h j=>exact λu hu=>(du.mp hu).elim (λq=>q▸i) (j u)
inductive Lens:Nat->Nat->aq (aq Op)->Prop
 |one {x z:Nat}{g:aq Op} (ne:chg g≠ []) (h:g.length+(x+z)=2*(chg g).length+1):Lens x z [g]
 |cons {x z:Nat}{g:aq Op}{gs:aq (aq Op)} (ne:chg g≠ []) (h:g.length+x=2*(chg g).length+1) (t:Lens 0 z gs):Lens x z (g::gs)
theorem uT(h:chg l≠ []):chg (l++m)≠ []:=by rw[bT];exact List.append_ne_nil_of_left_ne_nil h _
theorem Gk.lens(h:Gk n a b cur i j c f):∀ {x:Nat},cur.length+x=2*(chg cur).length->chg cur≠ []->Lens x (1-zz c) f:=by
 have q:∀ {x y:Op}{l:aq Op},y.tag.isEq=aL->zz (x::y::l)=zz l:=λ{x y l} h=>by
  cases l with
  |nil=>show(bif y.tag.isEq then 1 else 0)=0;rw[h];rfl
  |cons=>rfl
 induction h with
 |e0=>exact λh d=>.one d (by exact(Y47 h:_+(_+1)=_))
 | @e1 cur i j k=>
  refine λx h d=>(.one (uT d) ?_)
  rw[bx,e8,bT]
  show _+1+(x+0)=2*(chg cur++[]).length+1
  rw[c6];exact zzM1 0x14907da82f8003da4007da00001a82fa9a00047 [cur.length,x,(chg cur).length] ⋯ h
 | @join cur i j k r t g c f p v m e u s h o=>
  refine λx h d=>(rwL (q e) (o ?_ (uT d)))
  rw[bx,bT,bx,lK e]
  exact(zzM1 0x5241f6a002fa90bda00001a82fa9a00047 [cur.length,x,(chg cur).length] ⋯ h:cur.length+2+x=2*(_+1))
 | @cut cur i j k r t g c f p v m e u s h o=>
  refine λx h d=>(rwL (q e) (.cons (uT d) ?_ (o (by rw[cX rfl,eX e];rfl) (by rw[cX rfl,eX e];exact List.cons_ne_nil _ _))))
  rw[bx,e8,bT]
  show _+1+x=2*(chg cur++[]).length+1
  rw[c6];exact zzM1 0x5241f6a0be02907da00001a82fa9a00047 [cur.length,x,(chg cur).length] ⋯ h
theorem Gp.lens(h:Gp n a b l f):f= []\/Lens (chg (l.take 1)).length (chg (l.drop (l.length-1))).length f:=by
 cases h with
 |no h e=>exact .inl rfl
 | @ch g i j c f d q r h=>
  have o:zz (chO g 0 0 i j::c)=zz c:=by
   cases c with
   |nil=>show(bif g.isEq then 1 else 0)=0;rw[d];rfl
   |cons=>rfl
  refine rwL (show (chg ((chO g 0 0 i j::c).drop ((chO g 0 0 i j::c).length-1))).length=1-zz c by exact Y43 (mW (chO g 0 0 i j::c) nofun) o) (.inr (h.lens ?_ (by rw[eX d];exact List.cons_ne_nil _ _)))
  show 1+(chg [chO g 0 0 i j]).length=2*(chg [chO g 0 0 i j]).length
  rw[eX d];rfl
 | @eq g k i j c f p m d q r h=>
  have o:zz (eqO 0 0 k::chO g k k i j::c)=zz c:=by
   cases c with
   |nil=>show(bif g.isEq then 1 else 0)=0;rw[d];rfl
   |cons=>rfl
  refine rwL (show (chg ((eqO 0 0 k::chO g k k i j::c).drop ((eqO 0 0 k::chO g k k i j::c).length-1))).length=1-zz c by exact Y43 (mW (eqO 0 0 k::chO g k k i j::c) nofun) o) (.inr (h.lens ?_ (by rw[cX rfl,eX d];exact List.cons_ne_nil _ _)))
  show 2+(chg [eqO 0 0 k]).length=2*(chg [(eqO 0 0 k).tl n,chO g k k i j]).length
  rw[cX rfl,cX rfl,eX d];rfl
structure OEq(e:Op->Op->cw):Prop where
 r:∀ o,e o o=be
 i:∀ c o,c.i1≠o.i1->e c o=aL
 t:∀ c o,c.tag.isEq=aL->o.tag.isEq=be->e c o=aL
def inO(e:Op->Op->cw)(cs:aq Op)(o:Op):cw:=cs.any λc=>e c o
def cIn(e:Op->Op->cw)(cs:aq Op)(L:aq Op):Nat:=(L.filter (inO e cs)).length
theorem aAv(E:OEq e){a:aq Op}(h:o∈a):inO e a o=be:=ms.mpr ⟨o,h,E.r o⟩
theorem aF1(E:OEq e){a:aq Op}(h:∀ c∈a,c.i1≠o.i1):inO e a o=aL:=List.any_eq_false.mpr λc b q=>by cases ((E.i c o (h c b))▸q)
theorem inO_eq(E:OEq e)(h:o.tag.isEq=be):inO e (chg l) o=aL:=List.any_eq_false.mpr λc a q=>by
 have:=(h7.mp a).2
 rw[E.t c o (by simpa using this) h]at q;cases q
theorem uW{a:aq Op}(h:∀ o∈L,inO e a o=be):cIn e a L=L.length:=by delta cIn;rw[pv.mpr h]
theorem w7{a:aq Op}(h:∀ o∈L,inO e a o=aL):cIn e a L=0:=by delta cIn;rw[jn.mpr λo b=>by exact rwL (h o b) Bool.false_ne_true];rfl
inductive Zc(e:Op->Op->cw)(Z:aq Op):aq (aq Op)->Prop
 |one {g:aq Op} (h:∀ o∈Z,inO e (chg g) o=be):Zc e Z [g]
 |cons {g:aq Op}{gs:aq (aq Op)} (h:∀ o∈Z,inO e (chg g) o=aL) (t:Zc e Z gs):Zc e Z (g::gs)
theorem Lens.each{a:aq (aq Op)}(h:Lens x z a):∀ {X Z:aq Op},X.length=x->Z.length=z->(∀ g c,a=g::c->(∀ o∈X,inO e (chg g) o=be)/\∀ g∈c,∀ o∈X,inO e (chg g) o=aL)->Zc e Z a->∀ g∈a,g.length+(cIn e (chg g) X+cIn e (chg g) Z)=2*(chg g).length+1:=by
 induction h with
 | @one x z g k h=>
  intro X Z i f d b u hu
  refine rwL (dc.mp hu) (rwL (uW (d g [] rfl).1) (rwL i ?_))
  cases b with
  |one b=>exact rwL (uW b) (rwL f h)
  |cons _ t=>cases t
 | @cons x z g a k h t j=>
  intro X Z i f d b u hu
  cases b with
  |one=>cases t
  |cons b t2=>
   rcases du.mp hu with rfl |hu
   ·exact rwL (uW (d u a rfl).1) (rwL (w7 b) (rwL i h))
   ·exact rwL (w7 ((d g a rfl).2 u hu)) (j rfl f (λq q q=>⟨λq h=>ca h cx,λq q q h=>ca h cx⟩) t2 u hu)
theorem take1:chg (l.take 1)= []\/∃ o m,chg (l.take 1)= [o]/\chg l=o::m:=by
 cases l with
 |nil=>exact .inl rfl
 |cons o l=>
  cases h:o.tag.isEq with
  |true=>exact .inl (cX h [])
  |false=>exact .inr ⟨o,_,iN h [],iN h l⟩
theorem drop1:chg (l.drop (l.length-1))= []\/∃ o m,chg (l.drop (l.length-1))= [o]/\chg l=m++[o]:=by
 rcases List.eq_nil_or_concat l with rfl |⟨m,o,rfl⟩
 ·exact .inl rfl
 ·rw[List.concat_eq_append,bx,e8,Nat.add_sub_cancel,qy,bT]
  cases h:o.tag.isEq with
  |true=>exact .inl (cX h [])
  |false=>exact .inr ⟨o,_,iN h [],cu (chg m++ ·) (iN h [])⟩
theorem lY{b:aq (aq Op)}(h:o∈chg b.flatten):∃ g∈b,o∈chg g:=by
 have a:=h7.mp h
 refine xEA (List.mem_flatten.mp a.1) λg d c=>?_
 exact⟨g,d,h7.mpr ⟨c,a.2⟩⟩
theorem Lens.first{a:aq (aq Op)}(h:Lens x z (g::a)):chg g≠ []:=by cases h<;>assumption
theorem Gp.each(E:OEq e)(h:Gp n a b l d)(G:GrS a b aL 0 d):∀ g∈d,g.length+cIn e (chg g) (l.take 1++l.drop (l.length-1))=2*(chg g).length+1:=by
 intro g r
 rcases h.lens with q |L
 ·exact ca (rwR q r) cx
 have fl:=h.flat
 rw[(by
  intro E g L
  show(L.filter (inO e (chg g))).length=((L.filter λo=> !o.tag.isEq).filter (inO e (chg g))).length
  refine rwL List.filter_filter (cu List.length (sy λo H=>?_))
  cases h:o.tag.isEq with
  |true=>rw[inO_eq E h];rfl
  |false=>rw[Bool.not_false,Bool.and_true]:∀(E:OEq e)(g L:aq Op),cIn e (chg g) L=cIn e (chg g) (chg L)) E,bT,(by intro i L M;delta cIn;rw[jw,bx]:∀(i L M:aq Op),cIn e i (L++M)=cIn e i L+cIn e i M)]
 refine L.each rfl rfl (λu I q=>?_) ?_ g r
 ·subst q
  rcases take1 with z |⟨o,m,z,w⟩
  ·exact rwL z ⟨λK h=>ca h cx,λK K K h=>ca h cx⟩
  ·have j:o∈chg u:=by
    rw[w,jq,bT]at fl
    cases hu:chg u with
    |nil=>exact ca hu L.first
    |cons y m'=>
     rw[hu]at fl
     cases fl;exact ce
   exact rwL z ⟨λc f=>by exact rwL (dc.mp f) (aAv E j),λv s c f=>(rwL (dc.mp f) (aF1 E λc f=>zzI3 0xa2aa29b4312c07dac0087bee0aeb4216db02147aea0aaa42169a02147 [s1 u,o.i1,o.i2,s2 u,s1 v,c.i1,c.i2,s2 v] ⋯ ((G.g u ce).c.mem o j) ((G.g v (b4 _ s)).c.mem c f) ((c3.mp G.p).1 v s)))⟩
 ·rcases drop1 with z |⟨o,m,z,w⟩
  ·refine rwL z (L.rec (λK K=>.one λK h=>ca h cx) ?_)
   ·exact λK K K k=>.cons (λK h=>ca h cx) k
  ·exact rwL z ((by
    intro E x z d h
    induction h with
    | @one x z g D h=>
     intro o m G q
     exact .one λc f=>by exact rwL (dc.mp f) (aAv E ((mo▸q)▸jx _ (dc.mpr rfl)))
    | @cons x z g d D h t k=>
     intro o m G q
     have F:o∈chg d.flatten/\∃ m',chg d.flatten=m'++[o]:=by
      have B:chg d.flatten≠ []:=by
       cases d with
       |nil=>cases t
       |cons J A=>exact rwL jq (uT t.first)
      rw[jq,bT]at q
      rcases List.eq_nil_or_concat (chg d.flatten) with z |⟨m',y,z⟩
      ·exact ca z B
      ·rw[z,List.concat_eq_append,<-cz]at q
       have:=(List.append_inj' q rfl).2
       cases this
       exact rwL z (rwL List.concat_eq_append ⟨jx _ (dc.mpr rfl),m',rfl⟩)
     refine xAE F λom m' C=>?_
     refine .cons (λc f=>(rwL (dc.mp f) (xEA (lY om) λu hu j=>?_))) (k ⟨λu hu=>G.g u (b4 _ hu),(c3.mp G.p).2,λu hu=>G.e u (b4 _ hu)⟩ C)
     exact aF1 E λc f=>zzI3 0x122aa2da4312c07dac0087bee0aeb4216db02147aea0aaa42169a02147 [s1 g,c.i1,c.i2,s2 g,s1 u,o.i1,o.i2,s2 u] ⋯ ((G.g g ce).c.mem c f) ((G.g u (b4 _ hu)).c.mem o j) ((c3.mp G.p).1 u hu):∀(E:OEq e){x z:Nat}{d:aq (aq Op)}(h:Lens x z d),∀ {o:Op}{m:aq Op},GrS a b aL 0 d->chg d.flatten=m++[o]->Zc e [o] d) E L G (rwR w fl))
theorem aHh(G:GrS a b aL 0 d):∀ g∈d,(chg d.flatten).filter (λc=>decide (s1 g<=c.i1) && decide (c.i1<=s2 g))=chg g:=by
 have m:∀ d:aq (aq Op),(∀ g∈d,GrP a b g)->d.Pairwise (λg w=>s2 g<s1 w)->∀ lo l:Int,(∀ g∈d,l<s1 g\/s2 g<lo)->(chg d.flatten).filter (λc=>decide (lo<=c.i1) && decide (c.i1<=l))= []:=λgs r y lo l s=>by
  refine jn.mpr λo e q=>xEA (lY e) λu hu x=>?_
  have q:=cp.mp q
  exact zzI4 0x552468b29087a6d087b41f6b002a01f6c002187aea0aaa42169a02147 [s1 u,o.i1,o.i2,s2 u,l,lo] ⋯ ((r u hu).c.mem o x) (s u hu) (cn q.1) (cn q.2)
 have P:=G.p
 have i:=G.g
 clear G
 induction d with
 |nil=>exact λy h=>ca h cx
 |cons u t n=>
  intro g j
  have k:=c3.mp P
  rw[jq,bT,jw]
  rcases du.mp j with rfl |j
  ·rw[m t (λv f=>i v (b4 _ f)) k.2 _ _ λv f=>.inl (k.1 v f),c6]
   refine pv.mpr λo e=>?_
   have:=(i g ce).c.mem o e
   rw[bp this.1,bp (zzI1 0xaaba42aea0aaa42169a02147 [s1 g,o.i1,o.i2,s2 g] ⋯ this)];rfl
  ·rw[n k.2 (λv f=>i v (b4 _ f)) g j]
   rw[show (chg u).filter (λc=>decide (s1 g<=c.i1) && decide (c.i1<=s2 g))= [] from jn.mpr λo e q=>by
    exact zzI3 0xa9a2ba421e8b02b2b085aea0851e907da00087 [s2 u,s1 g,s1 u,o.i1,o.i2] ⋯ (k.1 g j) ((i u ce).c.mem o e) (cn (cp.mp q).1),rA]
theorem wA:∀ {l m:aq Nat},l.Pairwise (·< ·)->m.Pairwise (·< ·)->(∀ x,x∈l↔x∈m)->l=m:=λ{l}=>by
 induction l with
 |nil=>
  intro m _ _ h
  cases m with
  |nil=>rfl
  |cons y m=>exact ca ((h y).mpr ce) cx
 |cons x l c=>
  intro m d f h
  cases m with
  |nil=>exact ca ((h x).mp ce) cx
  |cons y m=>
   have b:=c3.mp d
   have a:=c3.mp f
   have e:x=y:=by
    rcases du.mp ((h x).mp ce) with q |q
    ·exact q
    ·rcases du.mp ((h y).mpr ce) with r |r
     ·exact r.symm
     ·exact zzM2 0x2969a01a01f690001e907da00007 [x,y] ⋯ (b.1 y r) (a.1 x q)
   subst e
   rw[c b.2 a.2 λz=>⟨λq=>?_,λq=>?_⟩]
   ·rcases du.mp ((h z).mp (b4 _ q)) with r |r
    ·exact(Y102 r (b.1 z q)).elim
    ·exact r
   ·rcases du.mp ((h z).mpr (b4 _ q)) with r |r
    ·exact(Y102 r (a.1 z q)).elim
    ·exact r
def begs(f:Nat->cw)(N:Nat):aq Nat:=(List.range N).filter λk=>f k && (decide (k=0) || !f (k-1))
def ends(f:Nat->cw)(N:Nat):aq Nat:=(List.range N).filter λk=>f k && (decide (k+1=N) || !f (k+1))
structure Spt(N:Nat)(L:aq (Nat×Nat)):Prop where
 p:L.Pairwise λp q=>p.2+1<q.1
 b:∀ p∈L,p.1<=p.2/\p.2<N
theorem aEe{α:Type}{R:α->α->Prop}{g:α->Nat}{L:aq α}(h:L.Pairwise R)(k:∀ x∈L,∀ y∈L,R x y->g x<g y):(L.map g).Pairwise (·< ·):=by
 rw[ja]
 exact(List.Pairwise.and_mem.mp h).imp λq=>k _ q.1 _ q.2.1 q.2.2
theorem Spt.or(S:Spt N L){p:Nat×Nat}(c:p∈L)(d:q∈L):p=q\/p.2+1<q.1\/q.2+1<p.1:=by
 obtain⟨i,a,rfl⟩:=my c
 obtain⟨j,b,rfl⟩:=my d
 have P:=iy.mp S.p
 rcases Nat.lt_trichotomy i j with r |r |r
 ·exact .inr (.inl (P i j a b r))
 ·subst r;exact .inl rfl
 ·exact .inr (.inr (P j i b a r))
theorem aBt(S:Spt N L)(h:∀ k,k<N->(f k=be↔∃ p∈L,p.1<=k/\k<=p.2)):begs f N=L.map Prod.fst:=by
 refine wA (List.Pairwise.filter _ List.pairwise_lt_range) (aEe S.p λx j y n q=>by exact zzM2 0x96907da8002b07da00028a80147a41f41f68000007 [x.snd,y.fst,x.fst,N] ⋯ q (S.b x j)) λk=>Iff.trans h7 (Iff.trans ?_ gw.symm)
 constructor
 ·rintro ⟨l,d⟩
  have i:=m0.mp l
  have d:=cp.mp d
  obtain⟨p,a,c,g⟩:=(h k i).mp d.1
  refine⟨p,a,Classical.byContradiction λne=>?_⟩
  rw[((h (k-1) (Y100 i)).mpr ⟨p,a,zzM2 0xa9214507da41a00a29a01107a68007 [p.fst,k] ⋯ c ne,zzM1 0x129a41f68040a68007 [k,p.snd] ⋯ g⟩),bw (zzM2 0x285a00f69044a29a01107a68007 [p.fst,k] ⋯ c ne)]at d
  exact Bool.false_ne_true d.2
 ·rintro ⟨p,a,rfl⟩
  have b:=S.b p a
  refine⟨m0.mpr (Y96 b),cp.mpr ⟨(h _ (Y96 b)).mpr ⟨p,a,c5 _,b.1⟩,?_⟩⟩
  by_cases z:p.1=0
  ·rw[bp z];rfl
  ·cases q:f (p.1-1) with
   |false=>rw[Bool.not_false,Bool.or_true]
   |true=>
    obtain⟨r,m,c,g⟩:=(h _ (zzM1 0x12a5a81f41f6804002a07da40029a00147 [p.fst,p.snd,N] ⋯ b)).mp q
    rcases S.or a m with e |e |e
    ·subst e;exact(Y94 z c).elim
    ·exact(Y93 b c e).elim
    ·exact(Y92 g e).elim
theorem aBg(S:Spt N L)(h:∀ k,k<N->(f k=be↔∃ p∈L,p.1<=k/\k<=p.2)):ends f N=L.map Prod.snd:=by
 refine wA (List.Pairwise.filter _ List.pairwise_lt_range) (aEe S.p λx m y j q=>by exact zzM2 0x96a07da0002b07da8002aa40147a41f41f68000007 [x.snd,y.fst,y.snd,N] ⋯ q (S.b y j)) λk=>Iff.trans h7 (Iff.trans ?_ gw.symm)
 constructor
 ·rintro ⟨i,d⟩
  have d:=cp.mp d
  obtain⟨p,a,g,c⟩:=(h k (m0.mp i)).mp d.1
  refine⟨p,a,Classical.byContradiction λne=>?_⟩
  rw[((h (k+1) (zzM3 0x1154ac1f41f68000028a290441eb07da40029a80147a68007 [k,p.snd,p.fst,N] ⋯ c (S.b p a) ne)).mpr ⟨p,a,Y89 g,zzM2 0xaaa41f68000a28a41107a68007 [k,p.snd] ⋯ c ne⟩),bw (zzM3 0x8a528ac1f68001128a290441eb07da40029a80147a68007 [k,p.snd,p.fst,N] ⋯ c (S.b p a) ne)]at d
  exact Bool.false_ne_true d.2
 ·rintro ⟨p,a,rfl⟩
  have b:=S.b p a
  refine⟨m0.mpr b.2,cp.mpr ⟨(h _ b.2).mpr ⟨p,a,b.1,c5 _⟩,?_⟩⟩
  by_cases z:p.2+1=N
  ·rw[bp z];rfl
  ·cases q:f (p.2+1) with
   |false=>rw[Bool.not_false,Bool.or_true]
   |true=>
    obtain⟨r,l,g,c⟩:=(h _ (zzM2 0x142aa07d07da40000a2a07da400441ea07da40029a00147 [p.fst,p.snd,N] ⋯ b z)).mp q
    rcases S.or a l with e |e |e
    ·subst e;exact(Y85 c).elim
    ·exact(Y84 g e).elim
    ·exact(Y83 b c e).elim
inductive Srt(z:Int):Int->aq (Int×Int)->Prop
 |nil {e:Int} (h:e<=z):Srt z e []
 |cons {e:Int}{p:Int×Int}{r:aq (Int×Int)} (h1:e<=p.1) (h2:p.1<=p.2) (h:Srt z p.2 r):Srt z e (p::r)
theorem Srt.le(h:Srt z e r):e<=z:=by
 induction h with
 |nil h=>exact h
 |cons a b h c=>exact zzI3 0x156ba02aea087aa9087a68087 [e_1,p.fst,p.snd,z] ⋯ a b c
theorem Srt.mono{a:Int}(h:Srt z e r)(q:a<=e):Srt z a r:=by
 cases h with
 |nil h=>exact .nil (Y81 q h)
 |cons b c h=>exact .cons (Y81 q b) c h
structure SepI(z lo:Int)(L:aq (Int×Int)):Prop where
 p:L.Pairwise λp q=>p.2<q.1
 b:∀ p∈L,lo<=p.1/\p.1<=p.2/\p.2<=z
theorem Cod.srt(h:Cod a b f i j l):Srt a.length i ((chg l).map pI):=by
 induction h with
 |nil=>exact .nil (Int.le_refl _)
 | @eq f i j k l q p m h c=>
  rw[cX rfl]
  exact c.mono (zzI1 0x168a40a42a01f40f40087 [k,i] ⋯ p)
 | @ch f i j n d g l q o e s r h c=>
  exact rwL (show chg (⟨g,i,n,j,d⟩::l)=_ from eX (tG o) l) (.cons (Int.le_refl _) e c)
def mkd(n z:Int)(cs:aq Op)(p:Nat):cw:=cs.any λc=>decide (max 0 (2*(c.i1-n))<=p) && decide ((p:Int)<=min (2*z) (2*(c.i2+n)))
def rg(g:aq Op):Nat×Nat:=(2*(s1 g).toNat,2*(s2 g).toNat)
structure Mks(a b:aq Int)(n:Int)(l:aq Op)(gs:aq (aq Op)):Prop where
 s:Spt (2*a.length+1) (gs.map rg)
 m:∀ k,k<2*a.length+1->(mkd n a.length (chg l) k=be↔∃ p∈gs.map rg,p.1<=k/\k<=p.2)
structure Re where
 old:aq Int
 len:Int
 cs:aq Op
structure Hu where
 lo:Nat
 hi:Nat
 w:cw
 new:aq Int
 r:Re
structure Pe where
 lo:Nat
 hi:Nat
 its:aq Hu
def mg(lo hi:Nat)(acc:aq Hu)(l:aq Hu):aq Pe:=l.rec (motive:=λq=>Nat->Nat->aq Hu->aq Pe) (λlo hi acc=>[⟨lo,hi,acc⟩]) (λh r ih lo hi acc=>bif decide (h.lo<=hi) then ih lo (max hi h.hi) (acc++[h]) else⟨lo,hi,acc⟩::ih h.lo h.hi [h]) lo hi acc
theorem mg_n{lo a:Nat}:mg lo a acc []= [⟨lo,a,acc⟩]:=rfl
theorem mg_c{lo a:Nat}:mg lo a acc (h::r)=bif decide (h.lo<=a) then mg lo (max a h.hi) (acc++[h]) r else⟨lo,a,acc⟩::mg h.lo h.hi [h] r:=rfl
def pcs:aq Hu->aq Pe | []=>[] |h::r=>mg h.lo h.hi [h] r
structure PeS(z lo:Nat)(P:aq Pe):Prop where
 p:P.Pairwise λp q=>p.hi<q.lo
 b:∀ p∈P,lo<=p.lo/\p.lo<=p.hi/\p.hi<=z
 i:∀ p∈P,∀ h∈p.its,p.lo<=h.lo/\h.lo<=h.hi/\h.hi<=p.hi
theorem mg_ok:∀ {l:aq Hu}{lo j:Nat}{acc:aq Hu},lo<=j->j<=z->(∀ h∈acc,lo<=h.lo/\h.lo<=h.hi/\h.hi<=j)->l.Pairwise (λh h'=>h.lo<=h'.lo)->(∀ h∈l,lo<=h.lo/\h.lo<=h.hi/\h.hi<=z)-> PeS z lo (mg lo j acc l)/\((mg lo j acc l).map Pe.its).flatten=acc++l/\∀ x:Nat,(∃ p∈mg lo j acc l,2*p.lo<=x/\x<=2*p.hi)↔(2*lo<=x/\x<=2*j)\/∃ h∈l,2*h.lo<=x/\x<=2*h.hi:=λ{l}=>by
 induction l with
 |nil=>
  intro lo j acc n k m _ _
  refine rwL mg_n ⟨⟨List.pairwise_singleton _ _,λp f=>(rwL (dc.mp f) ⟨c5 _,n,k⟩),λp f=>?_⟩,?_,λx=>⟨λw=>xEA w λp f q=>?_,λq=>?_⟩⟩
  ·exact rwL (dc.mp f) m
  ·exact mo.trans (c6 _).symm
  ·rw[dc.mp f]at q;exact .inl q
  ·rcases q with q |⟨_,q,_⟩
   ·exact⟨_,dc.mpr rfl,q⟩
   ·exact ca q cx
 |cons h r u=>
  intro lo j acc n k m v s
  have o:=c3.mp v
  have b:=s h ce
  have t:∀ g∈r,h.lo<=g.lo/\g.lo<=g.hi/\g.hi<=z:=λg a=>⟨o.1 g a,(s g (b4 _ a)).2⟩
  refine rwL mg_c ?_
  by_cases c:h.lo<=j
  ·rw[bp c,f4]
   obtain⟨S,F,M⟩:=u (zzM1 0x22a96ab02a00aea02aa40169a00147 [lo,h.lo,h.hi,z,j] ⋯ b) (Y145 k b) (λg a=>by
    rcases gb.mp a with a |a
    ·exact zzM1 0xa891246cac2a80aa9005a68005aea02aa40169a00147 [lo,g.lo,g.hi,j,h.hi] ⋯ (m g a)
    ·exact rwL (dc.mp a) (Y143 b)) o.2 λg a=>by exact Y135 b (t g a)
   refine⟨S,by rw[F,cz];rfl,λx=>Iff.trans (M x) ⟨λq=>?_,λq=>?_⟩⟩
   ·rcases q with q |⟨g,a,q⟩
    ·by_cases d:x<=2*j
     ·exact .inl ⟨q.1,d⟩
     ·exact .inr ⟨h,ce,zzM2 0xaeaa02f80a290bea80107a68007 [h.lo,j,x] ⋯ c d,zzM2 0x4852b0bea40a2a0bea40107aea082fa9029a02f80147 [lo,x,j,h.hi] ⋯ q d⟩
    ·exact .inr ⟨g,b4 _ a,q⟩
   ·rcases q with q |⟨g,a,q⟩
    ·exact .inl ⟨q.1,zzM1 0x5a4aba820bea40a82fa9029a02f80147 [lo,x,j,h.hi] ⋯ q⟩
    ·rcases du.mp a with e |a
     ·rw[e]at q;exact .inl ⟨zzM2 0x48eca02f80a82fac02ca42f80147aea02aa40169a00147 [lo,h.lo,h.hi,z,x] ⋯ b q,zzM1 0x496aaac20bea40a82fa9029a02f80147 [h.lo,x,h.hi,j] ⋯ q⟩
     ·exact .inr ⟨g,a,q⟩
  ·rw[bw c,ik]
   refine xAA (u b.2.1 b.2.2 (λg a=>by exact rwL (dc.mp a) (Y137 b)) o.2 t) λS F M=>?_
   refine⟨⟨c3.mpr ⟨λp f=>(zzM2 0x45a81f69000b2b02ba8016aa00147a29a00107 [h.lo,j,p.lo,p.hi,z] ⋯ c (S.b p f):j<p.lo),S.p⟩,λp f=>?_,λp f=>?_⟩,?_,λx=>⟨λy=>xEA y λp f q=>?_,λq=>?_⟩⟩
   ·rcases du.mp f with e |f
    ·exact rwL e ⟨c5 _,n,k⟩
    ·exact Y135 b (S.b p f)
   ·rcases du.mp f with e |f
    ·exact rwL e m
    ·exact S.i p f
   ·rw[jf,jq,F];rfl
   ·rcases du.mp f with e |f
    ·rw[e]at q;exact .inl q
    ·rcases(M x).mp ⟨p,f,q⟩ with q |⟨g,a,q⟩
     ·exact .inr ⟨h,ce,q⟩
     ·exact .inr ⟨g,b4 _ a,q⟩
   ·rcases q with q |⟨g,a,q⟩
    ·exact⟨_,ce,q⟩
    ·rcases du.mp a with e |a
     ·rw[e]at q
      obtain⟨p,f,q⟩:=(M x).mpr (.inl q)
      exact⟨p,b4 _ f,q⟩
     ·obtain⟨p,f,q⟩:=(M x).mpr (.inr ⟨g,a,q⟩)
      exact⟨p,b4 _ f,q⟩
theorem pcs_ok(j:l.Pairwise λh h'=>h.lo<=h'.lo)(c:∀ h∈l,h.lo<=h.hi/\h.hi<=z):PeS z 0 (pcs l)/\((pcs l).map Pe.its).flatten=l/\∀ x:Nat,(∃ p∈pcs l,2*p.lo<=x/\x<=2*p.hi)↔∃ h∈l,2*h.lo<=x/\x<=2*h.hi:=by
 cases l with
 |nil=>exact⟨⟨.nil,λk h=>ca h cx,λk h=>ca h cx⟩,rfl,λx=>⟨λw=>xEA w λk h k=>ca h cx,λy=>xEA y λk h k=>ca h cx⟩⟩
 |cons h r=>
  have d:=c3.mp j
  have b:=c h ce
  refine xAA (mg_ok b.1 b.2 (λg a=>by exact rwL (dc.mp a) (Y134 b)) d.2 λg a=>⟨d.1 g a,c g (b4 _ a)⟩) λS F M=>?_
  refine⟨⟨S.p,λp f=>by exact zzM1 0x14491aea02aa4016903d005aea02aa40169a00147 [h.lo,p.lo,p.hi,z] ⋯ (S.b p f),S.i⟩,F,λx=>Iff.trans (M x) ⟨λq=>?_,λq=>?_⟩⟩
  ·rcases q with q |⟨g,a,q⟩
   ·exact⟨h,ce,q⟩
   ·exact⟨g,b4 _ a,q⟩
  ·refine xEA q λg a q=>?_
   rcases du.mp a with e |a
   ·exact .inl (rwR e q)
   ·exact .inr ⟨g,a,q⟩
def inP(p:Pe)(h:Hu):cw:=decide (p.lo<=h.lo) && decide (h.hi<=p.hi)
theorem its_in{lo:Nat}:∀ {P:aq Pe},PeS z lo P->∀ p∈P,((P.map Pe.its).flatten).filter (inP p)=p.its:=λ{P}=>by
 induction P with
 |nil=>exact λo o h=>ca h cx
 |cons u g l=>
  intro S p d
  have f:=c3.mp S.p
  rw[jf,jq,jw]
  have j:∀ q∈u::g,∀ h∈q.its,(q.hi<p.lo\/p.hi<q.lo)->inP p h=aL:=λq c h a z=>by
   delta inP
   rcases z with z |z
   ·rw[bw (zzM2 0xaaa29b0012c07dac0007aea02aa40169a00147 [q.lo,h.lo,h.hi,q.hi,p.lo] ⋯ (S.i q c h a) z: ¬p.lo<=h.lo)];rfl
   ·rw[bw (zzM2 0xa5a2ca8012807db00007aea02aa40169a00147 [q.lo,h.lo,h.hi,q.hi,p.hi] ⋯ (S.i q c h a) z: ¬h.hi<=p.hi),Bool.and_false]
  rcases du.mp d with e |d
  ·subst e
   have m:p.its.filter (inP p)=p.its:=pv.mpr λh a=>by
    have b:=S.i p ce h a
    delta inP
    rw[bp b.1,bp b.2.2];rfl
   have n:((g.map Pe.its).flatten).filter (inP p)= []:=jn.mpr λh a=>by
    refine xEA (List.mem_flatten.mp a) λl k a=>?_
    obtain⟨q,c,rfl⟩:=gw.mp k
    exact rwL (j q (b4 _ c) h a (.inr (f.1 q c))) Bool.false_ne_true
   rw[m,n,c6]
  ·rw[l ⟨f.2,λq c=>S.b q (b4 _ c),λq c=>S.i q (b4 _ c)⟩ p d,jn.mpr λh a=>?_,rA]
   exact rwL (j u ce h a (.inl (f.1 p d))) Bool.false_ne_true
def ctI(f:Nat->aq Int)(p r:Nat):aq Int:=cat f p (r-p)
theorem oY(a:p<=q)(b:q<=r):ctI f p r=ctI f p q++ctI f q r:=by
 delta ctI
 rw[show r-p=(q-p)+(r-q) by exact zzM2 0x204089424520a22150aa84148425040829a81a29040a2a041aa9007a68007 [p,q,r] ⋯ a b,kJ,show p+(q-p)=q by exact Y124 a]
theorem hf0(k:Nat):2*k/2=k:=Nat.mul_div_cancel_left k (by decide)
theorem hf1(k:Nat):(2*k+1)/2=k:=Y36 zzD zzE
def lnf(a:aq Int)(t:Nat):aq Int:=bif t%2==1 then sl a ((t/2:Nat):Int) (((t/2:Nat):Int)+1) else []
structure SdX(a c:aq Int)(f:Nat->aq Int)(hs:aq Hu):Prop where
 p:hs.Pairwise λh h'=>h.hi<h'.lo
 b:∀ h∈hs,h.lo<=h.hi/\h.hi<=a.length
 n:∀ h∈hs,ctI f (2*h.lo) (2*h.hi+1)=h.new
 o:∀ t,t<2*a.length+1->(∀ h∈hs,¬(2*h.lo<=t/\t<=2*h.hi))->f t=lnf a t
 t:ctI f 0 (2*a.length+1)=c
def tx(a:aq Int)(e:Nat)(its:aq Hu)(hi:Nat):aq Int:=its.rec (motive:=λq=>Nat->aq Int) (λe=>sl a e hi) (λh q ih e=>(sl a e h.lo++h.new)++ih h.hi) e
theorem tx_c{b:Nat}:tx a e (h::r) b=(sl a e h.lo++h.new)++tx a h.hi r b:=rfl
theorem SdX.free(S:SdX a b f hs){p:Nat}(pr:p<=r)(i:r<=2*a.length+1)(h:∀ g∈hs,2*g.hi<p\/r<=2*g.lo):ctI f p r=sl a ((p/2:Nat):Int) ((r/2:Nat):Int):=by
 have e:=(by
  exact λa=>λm=>by
    induction m with
    |zero=>exact λp=>lQ.symm
    |succ m j=>
     intro p
     rw[j8,j]
     delta lnf
     obtain⟨k,rfl |rfl⟩:=par p
     ·rw[show 2*k%2=0 from ev2 k,hf1,hf0,show 2*k+1+m=2*k+(m+1) by exact (zzM0 0x141f690280be02907da02f80001 [k,m] ⋯)];rfl
     ·rw[show (2*k+1)%2=1 from od2 k,show (2*k+1+1)/2=k+1 by exact Y127 zzD zzE,show (2*k+1)/2=k by exact Y36 zzD zzE,show 2*k+1+1+m=2*k+1+(m+1) by exact (zzM0 0x141f69001f680be000a41f41f680be000001 [k,m] ⋯)]
      show sl a (k:Int) ((k:Int)+1)++_=_
      rw[show (k:Int)+1=((k+1:Nat):Int) by exact Y28,k9 Y27 (Y125 zzD zzE)]:∀(a:aq Int),∀ (m p:Nat),cat (lnf a) p m=sl a ((p/2:Nat):Int) (((p+m)/2:Nat):Int)) a (r-p) p
 rw[(Y124 pr)]at e
 exact rwR e (hV λt c d=>S.o t (zzM3 0x49441f690be001f6b000aa806a001f6b0001eba801c1f690be028007 [r,a.length,p,t] ⋯ i c d) λg l q=>by exact zzM4 0x9094a2868ac2faa02807db02f800061ec0bea40a6b0be0051e8a81a0007da40007a68007 [p,t,r,g.lo,g.hi] ⋯ c d q (h g l))
theorem tx_i(S:SdX a b f hs)(o:c<=a.length):∀ {its:aq Hu}{e s:Nat},s/2=e->s<=2*c+1->(∀ h∈its,h∈hs/\s<=2*h.lo/\h.hi<=c)->its.Pairwise (λh h'=>h.hi<h'.lo)->(∀ h∈hs,h∈its\/2*h.hi<s\/2*c+1<=2*h.lo)->tx a e its c=ctI f s (2*c+1):=λ{its}=>by
 induction its with
 |nil=>
  intro e s l m j _ k
  rw[(by exact λ{a e c}=>rfl:∀{a:aq Int}{e c:Nat},tx a e [] c=sl a e c),S.free m (zzM1 0x2c1f690be001f680be000a68007 [c,a.length] ⋯ o) λg i=>(k g i).resolve_left cx,l,hf1]
 |cons h r p=>
  intro e s l m j t k
  have P:=c3.mp t
  have d:=j h ce
  have b:=S.b h d.1
  rw[tx_c,p (hf1 _) (Y118 d.2) (λg i=>⟨(j g (b4 _ i)).1,by exact Y111 (P.1 g i),(j g (b4 _ i)).2.2⟩) P.2 (λg i=>?_),<-S.n h d.1,oY d.2.1 (zzM2 0x13607dac2f80a42f80b2a02aa40147aea0290bea00147 [s,h.lo,h.hi,c,a.length] ⋯ d.2 b),oY (Y119 b) (Y118 d.2),<-cz,S.free d.2.1 (zzM1 0x5b07da82f80a02f80aa9029a00147 [h.lo,h.hi,a.length] ⋯ b) λg i=>?_,l,hf0]
  ·rcases k g i with q |q |q
   ·rcases du.mp q with q |q
    ·rw[q];exact .inr (c5 _)
    ·exact .inr (zzM2 0xb3ac2fa80be02b07da40007aa9029a00147 [h.lo,h.hi,a.length,g.lo] ⋯ b (P.1 g q))
   ·exact .inl q
   ·exact .inr (zzM3 0x536b42fa90be02d0be07dac2f80007b2a02aa40147aea0290bea00147 [s,h.lo,h.hi,c,a.length,g.lo] ⋯ d.2 b q)
  ·rcases k g i with q |q |q
   ·rcases du.mp q with q |q
    ·rw[q];exact .inr (.inl (md _))
    ·exact .inl q
   ·exact .inr (.inl (zzM3 0x29907da82f8007db42f8002807db42f80007b2a02aa40147aea0290bea00147 [s,h.lo,h.hi,c,a.length,g.hi] ⋯ d.2 b q))
   ·exact .inr (.inr q)
def ofw(w:cw)(l:aq Hu):aq Hu:=l.filter λh=>h.w==w
structure SdP(a b:aq Int)(f:Nat->aq Int)(w:cw)(hs:aq Hu)(P:aq Pe):Prop where
 s:SdX a b f hs
 pe:PeS a.length 0 P
 e:ofw w ((P.map Pe.its).flatten)=hs
theorem SdP.its(D:SdP a b f w hs P)(p:Pe)(c:p∈P):ofw w p.its=hs.filter (inP p):=by
 rw[<-its_in D.pe p c,<-D.e]
 delta ofw
 exact rwL List.filter_filter (rwL List.filter_filter (sy λh q=>Bool.and_comm ..))
theorem SdP.out(D:SdP a b f w hs P)(k:h∈hs):∃ q∈P,q.lo<=h.lo/\h.hi<=q.hi/\h∈ofw w q.its:=by
 have c:=h7.mp (D.e▸k)
 refine xEA (List.mem_flatten.mp c.1) λl j d=>?_
 obtain⟨q,g,rfl⟩:=gw.mp j
 have:=D.pe.i q g h d
 exact⟨q,g,this.1,this.2.2,h7.mpr ⟨d,c.2⟩⟩
theorem PeS.or{lo:Nat}(S:PeS z lo P){p:Pe}(c:p∈P)(d:q∈P):p=q\/p.hi<q.lo\/q.hi<p.lo:=by
 obtain⟨i,a,rfl⟩:=my c
 obtain⟨j,b,rfl⟩:=my d
 have P:=iy.mp S.p
 rcases Nat.lt_trichotomy i j with r |r |r
 ·exact .inr (.inl (P i j a b r))
 ·subst r;exact .inl rfl
 ·exact .inr (.inr (P j i b a r))
theorem SdP.tx(D:SdP a b f w hs P)(p:Pe)(c:p∈P):tx a p.lo (ofw w p.its) p.hi=ctI f (2*p.lo) (2*p.hi+1):=by
 have e:=D.its p c
 refine tx_i D.s (D.pe.b p c).2.2 (hf0 _) (Y110 (D.pe.b p c)) (λh d=>?_) ?_ λh d=>?_
 ·have q:=h7.mp (rwR e d)
  have r:=cp.mp q.2
  exact⟨q.1,Nat.mul_le_mul_left 2 (cn r.1),cn r.2⟩
 ·exact rwL e (D.s.p.filter _)
 ·refine xEAAA (D.out d) λq j g i h=>?_
  rcases D.pe.or c j with r |r |r
  ·exact rwL r (.inl h)
  ·exact .inr (.inr (Y113 g r))
  ·exact .inr (.inl (Y112 i r))
def tot(a:aq Int)(w:cw)(e:Nat)(P:aq Pe):aq Int:=P.rec (motive:=λq=>Nat->aq Int) (λe=>sl a e a.length) (λp q ih e=>(sl a e p.lo++Mine.Internal.tx a p.lo (ofw w p.its) p.hi)++ih p.hi) e
theorem tot_c:tot a w e (p::P)=(sl a e p.lo++Mine.Internal.tx a p.lo (ofw w p.its) p.hi)++tot a w p.hi P:=rfl
theorem SdP.tot(D:SdP a b f w hs P):∀ {R:aq Pe}{e s:Nat},s/2=e->s<=2*a.length+1->(∀ p∈R,p∈P/\s<=2*p.lo)->R.Pairwise (λp q=>p.hi<q.lo)->(∀ p∈P,p∈R\/2*p.hi<s)->Mine.Internal.tot a w e R=ctI f s (2*a.length+1):=λ{R}=>by
 induction R with
 |nil=>
  intro e s m o l _ h
  rw[D.s.free o (c5 _) λg n=>?_,m,hf1]
  ·rfl
  ·refine xEAAA (D.out n) λq c i k t=>?_
   exact .inl (Y105 k ((h q c).resolve_left cx))
 |cons p R u=>
  intro e s m o l v h
  have j:=c3.mp v
  have g:=l p ce
  have d:=D.pe.b p g.1
  rw[tot_c,D.tx p g.1,u (hf1 _) (Y109 d) (λq c=>⟨(l q (b4 _ c)).1,by exact Y111 (j.1 q c)⟩) j.2 (λq c=>?_),oY g.2 (Y108 d),oY (Y110 d) (Y109 d),<-cz,D.s.free g.2 (Y108 d) λg n=>?_,m,hf0]
  ·refine xEAAA (D.out n) λq c i k t=>?_
   rcases h q c with r |r
   ·rcases du.mp r with r |r
    ·exact .inr (Y107 (rwR r i))
    ·exact .inr (zzM3 0x2d9ac0bea02f80ac1f690001ecac01eaa40a68005a00f40147 [p.lo,p.hi,a.length,q.lo,g.lo] ⋯ d i (j.1 q r))
   ·exact .inl (Y105 k r)
  ·rcases h q c with r |r
   ·rcases du.mp r with r |r
    ·exact rwL r (.inr (md _))
    ·exact .inl r
   ·exact .inr (zzM3 0xa641f6a0be001f6c0be000a01f6c0be0001eba80aa9005a40f40147a42fa8007 [s,p.lo,p.hi,a.length,q.hi] ⋯ g.2 d r)
theorem SdP.all(D:SdP a b f w hs P):Mine.Internal.tot a w 0 P=b:=by
 exact rwL (D.tot rfl (hN _) (λp c=>⟨c,hN _⟩) D.pe.p λp c=>.inl c) D.s.t
theorem Cod.cq(h:Cod a b f i j l):Cq a b i j l a.length b.length:=by
 induction h with
 |nil=>exact .nil
 |eq k p m h c=>exact .eq (ip p) m c
 |ch k e d g n h c=>exact .ch (tG e) d g c
def hu(a b:aq Int)(w:cw)(g:aq Op):Hu:=⟨(s1 g).toNat,(s2 g).toNat,w,sl b (t1 g) (t2 g),⟨sl a (s1 g) (s2 g),g.length,chg g⟩⟩
theorem GrP.bd(G:GrP a b g):∃ u v:Nat,s1 g=u/\s2 g=v/\u<=v/\v<=a.length:=by
 exact⟨(s1 g).toNat,(s2 g).toNat,Y23 G.i0,zzI2 0x24a8410a28a441290e803d087aea0a9a02147 [s1 g,s2 g,t1 g,t2 g] ⋯ G.c.le G.i0,zzI1 0x1050a2868a44a28100aea0a9a02147 [s1 g,s2 g,t1 g,t2 g] ⋯ G.c.le,Y159 G.ia⟩
theorem GrS.or(G:GrS a b aL 0 c){p:aq Op}(f:p∈c)(g:q∈c):p=q\/s2 p<s1 q\/s2 q<s1 p:=by
 obtain⟨i,d,rfl⟩:=my f
 obtain⟨j,e,rfl⟩:=my g
 have P:=iy.mp G.p
 rcases Nat.lt_trichotomy i j with r |r |r
 ·exact .inr (.inl (P i j d e r))
 ·subst r;exact .inl rfl
 ·exact .inr (.inr (P j i e d r))
theorem qH{α c:Type}{f:α->aq c}{p:α->cw}:∀ {l:aq α},(∀ x∈l,p x=aL->f x= [])->(l.filter p).flatMap f=l.flatMap f:=λ{l}=>by
 induction l with
 |nil=>exact λd=>rfl
 |cons x l b=>
  intro h
  rw[gj,qp]
  cases q:p x with
  |true=>rw[cj rfl,gj,b λy a=>h y (b4 _ a)]
  |false=>rw[cc Bool.false_ne_true,b λy a=>h y (b4 _ a),h x ce q];rfl
def ky(h:Hu):Int:=(2*(1000*h.lo+h.hi)+(bif h.w then 1 else 0):Nat)
structure Hv where
 h:Hu
 n:Nat
 v:V
def kv(x:Hv):Int:=ky x.h
theorem bit1(w:cw):(bif w then 1 else 0:Nat)<=1:=by cases w<;>decide
theorem ky_lo(h:ky x<ky y)(a:x.hi<1000)(c:y.hi<1000):x.lo<=y.lo:=by
 unfold ky at h
 have b:=bit1 y.w
 omega
theorem aAp:∀ {l:aq Hu},l.Pairwise (λh h'=>h.hi<h'.lo)->(∀ h∈l,h.lo<=h.hi/\h.hi<1000/\h.w=w)->l.Pairwise λx y=>ky x<ky y:=λ{l} P b=>by
 refine(List.Pairwise.and_mem.mp P).imp λ{x y} q=>?_
 have a:=b x q.1
 have c:=b y q.2.1
 have d:=q.2.2
 have e:=a.1
 have f:=c.1
 delta ky
 rw[a.2.2,c.2.2]
 clear a c q
 omega
def both(M O:aq Hv):aq Hv:=isort kv (M++O)
structure Two(z:Nat)(M O:aq Hv):Prop where
 pm:(M.map Hv.h).Pairwise λh h'=>h.hi<h'.lo
 po:(O.map Hv.h).Pairwise λh h'=>h.hi<h'.lo
 bm:∀ x∈M,x.h.lo<=x.h.hi/\x.h.hi<=z/\x.h.w=aL
 bo:∀ x∈O,x.h.lo<=x.h.hi/\x.h.hi<=z/\x.h.w=be
 z:z<1000
theorem Two.km{z:Nat}(T:Two z M O):M.Pairwise λx y=>kv x<kv y:=by
 have:=aAp T.pm λh a=>by
  obtain⟨x,b,rfl⟩:=gw.mp a
  have q:=T.bm x b
  exact⟨q.1,ec q.2.1 T.z,q.2.2⟩
 rwa [ja]at this
theorem Two.ko{z:Nat}(T:Two z M O):O.Pairwise λx y=>kv x<kv y:=by
 have:=aAp T.po λh a=>by
  obtain⟨x,b,rfl⟩:=gw.mp a
  have q:=T.bo x b
  exact⟨q.1,ec q.2.1 T.z,q.2.2⟩
 rwa [ja]at this
theorem Two.sd{z:Nat}(T:Two z M O):(both M O).Pairwise λx y=>kv x<kv y:=by
 refine qC (List.pairwise_append.mpr ⟨T.km.imp λq=>Int.ne_of_lt q,T.ko.imp λq=>Int.ne_of_lt q,λx b y a e=>?_⟩)
 unfold kv ky at e
 rw[((T.bm x b).2.2),((T.bo y a).2.2)]at e
 exact pne _ _ (Int.ofNat.inj e)
theorem Two.bd{z:Nat}(T:Two z M O):∀ x∈both M O,x.h.lo<=x.h.hi/\x.h.hi<=z:=λx a=>by
 rcases gb.mp ((b5 kv (M++O)).mem_iff.mp a) with h |h
 ·have z:=T.bm x h;exact⟨z.1,z.2.1⟩
 ·have z:=T.bo x h;exact⟨z.1,z.2.1⟩
theorem Two.low{z:Nat}(T:Two z M O):((both M O).map Hv.h).Pairwise λh h'=>h.lo<=h'.lo:=by
 rw[ja]
 exact(List.Pairwise.and_mem.mp T.sd).imp λ{x y} q=>ky_lo q.2.2 (Y147 (T.bd x q.1) T.z) (Y147 (T.bd y q.2.1) T.z)
theorem Two.of{z:Nat}(T:Two z M O):ofw aL ((both M O).map Hv.h)=M.map Hv.h/\ofw be ((both M O).map Hv.h)=O.map Hv.h:=by
 have b:∀ w:cw,ofw w ((both M O).map Hv.h)=((both M O).filter λx=>x.h.w==w).map Hv.h:=λw=>by delta ofw;rw[uv];rfl
 have c:(both M O).Perm (M++O):=b5 kv (M++O)
 constructor
 ·rw[b,kD ((c.filter _).trans (.of_eq ?_)) (T.sd.filter _) T.km]
  rw[jw,pv.mpr λx a=>by rw[(T.bm x a).2.2];rfl,jn.mpr λx a=>by exact rwL ((T.bo x a).2.2) Bool.false_ne_true,c6]
 ·rw[b,kD ((c.filter _).trans (.of_eq ?_)) (T.sd.filter _) T.ko]
  rw[jw,pv (l:=O).mpr λx a=>by rw[(T.bo x a).2.2];rfl,jn.mpr λx a=>by exact rwL ((T.bm x a).2.2) Bool.false_ne_true,rA]
structure Rw where
 kept:aq Int
 old:aq Int
 t0:aq Int
 t1:aq Int
 d0:aq Re
 d1:aq Re
def rowM(a:aq Int)(e:Nat)(p:Pe):Rw:=⟨sl a e p.lo,sl a p.lo p.hi,tx a p.lo (ofw aL p.its) p.hi,tx a p.lo (ofw be p.its) p.hi,(ofw aL p.its).map Hu.r,(ofw be p.its).map Hu.r⟩
def g7(a:aq Int):aq Pe->Nat->aq Rw | [],_=>[] |p::P,e=>rowM a e p::g7 a P p.hi
def i6:aq Pe->Nat->Nat | [],e=>e |p::P,_=>i6 P p.hi
theorem oG:g7 a (p::P) e=rowM a e p::g7 a P p.hi:=rfl
theorem tP:i6 (p::P) e=i6 P p.hi:=rfl
def chs(l:aq Op)(q:Nat×Nat):aq Op:=l.filter λo=> !o.tag.isEq && (decide ((q.1:Int)<=2*o.i1) && decide (2*o.i1<=(q.2:Int)))
def mZ(e:Op->Op->cw)(a:aq Int)(l:aq Op)(q:Nat×Nat):Re:=⟨sl a ((q.1/2:Nat):Int) ((q.2/2:Nat):Int),2*((chs l q).length:Int)+1-(cIn e (chs l q) (l.take 1++l.drop (l.length-1)):Nat),chs l q⟩
def dR(e:Op->Op->cw)(a:aq Int)(l:aq Op)(rs:aq (Nat×Nat))(B E:Nat):aq Re:=(rs.filter λq=>decide (B<=q.1) && decide (q.2<=E)).map (mZ e a l)
def rowD(a:aq Int)(f0 f1:Nat->aq Int)(t0 t1:Nat->Nat->aq Re)(e:Nat)(q:Nat×Nat):Rw:=⟨sl a e ((q.1/2:Nat):Int),sl a ((q.1/2:Nat):Int) ((q.2/2:Nat):Int),cat f0 q.1 (q.2+1-q.1),cat f1 q.1 (q.2+1-q.1),t0 q.1 q.2,t1 q.1 q.2⟩
def vN(a:aq Int)(f0 f1:Nat->aq Int)(t0 t1:Nat->Nat->aq Re):aq (Nat×Nat)->Nat->aq Rw | [],_=>[] |q::r,e=>rowD a f0 f1 t0 t1 e q::vN a f0 f1 t0 t1 r (q.2/2)
def qB:aq (Nat×Nat)->Nat->Nat | [],e=>e |q::r,_=>qB r (q.2/2)
theorem aIr{b:Nat->aq Int}{t1:Nat->Nat->aq Re}:vN a b f1 c t1 (q::r) e=rowD a b f1 c t1 e q::vN a b f1 c t1 r (q.2/2):=rfl
theorem aJv:qB (q::r) e=qB r (q.2/2):=rfl
def pg(p:Pe):Nat×Nat:=(2*p.lo,2*p.hi)
structure Side(e:Op->Op->cw)(a b:aq Int)(n:Int)(w:cw)(l:aq Op)(gs:aq (aq Op)):Prop where
 G:GrS a b aL 0 gs
 X:SdX a b (cel a b (chg l)) (gs.map (hu a b w))
 K:Mks a b n l gs
 T:∀ g∈gs,mZ e a l (rg g)=(hu a b w g).r
theorem Side.of(E:OEq e)(n0:0<=n)(c:Cod a b none 0 0 l):Side e a b n w l (groups n l):=by
 have h:=Gp.of n0 c
 have G:=(h.gl n0).grs (Int.le_refl 0) (Int.le_refl 0)
 refine⟨G,(by
  refine⟨?_,λx V=>?_,λx V=>?_,λt ht hn=>?_,?_⟩
  ·rw[ja]
   refine(List.Pairwise.and_mem.mp G.p).imp λ{g W} q=>?_
   obtain⟨u,v,D,C,_⟩:=(G.g g q.1).bd
   obtain⟨u',v',H,K,_⟩:=(G.g W q.2.1).bd
   exact Y154 C q.2.2
  ·obtain⟨g,j,rfl⟩:=gw.mp V
   refine xEEAAA ((G.g g j).bd) λu v D C H K=>?_
   exact Y153 D C H K
  ·obtain⟨g,j,rfl⟩:=gw.mp V
   refine xEEAAA ((G.g g j).bd) λu v D C H K=>?_
   have P:=G.g g j
   refine(?_:ctI _ (2*(s1 g).toNat) (2*(s2 g).toNat+1)=sl b (t1 g) (t2 g))
   exact rwL (show (s1 g).toNat=u by exact Y152 D) (rwL (show (s2 g).toNat=v by exact Y152 C) (rwL ((by exact λ{f u v} h=>cu (cat f (2*u)) (zzM1 0x58b162d1ac4201f68a410be0280be07da42f80041a68007 [u,v] ⋯ h):∀{f:Nat->aq Int}{u v:Nat}(h:u<=v),ctI f (2*u) (2*v+1)=cat f (2*u) (2*(v-u)+1)) H) (rwR (y5 P.c D C P.j0 P.jb P.ia) (rwR h.flat (hV λt B s=>(by
    obtain⟨k,rfl |rfl⟩:=par t
    ·rw[f9,f9,<-(aHh G g j)]
     refine(qH λc A q=>?_).symm
     have: ¬c.i1=k:=λz=>by
      rw[bp (Y158 D B z),bp (Y157 C (Y151 H s) z)]at q;cases q
     rw[bw this];rfl
    ·rw[k4,k4]
     refine cu (λz=>bif z then [] else sl a (k:Int) ((k:Int)+1)) (Bool.eq_iff_iff.mpr ⟨λq=>?_,λq=>?_⟩)
     ·refine xEA (ms.mp q) λc A q=>?_
      refine ms.mpr ⟨c,?_,q⟩
      have q:=cp.mp q
      refine xEA (lY A) λr I cr=>?_
      have m:=(G.g r I).c.mem c cr
      rcases G.or j I with z |z |z
      ·exact rwL z cr
      ·exact(Y156 C (Y151 H s) (cn q.1) m z).elim
      ·exact(Y155 D B (cn q.2) m z).elim
     ·refine xEA (ms.mp q) λc A q=>?_
      exact ms.mpr ⟨c,(h7.mp (rwL (aHh G g j) A)).1,q⟩))))))
  ·have Z:∀ c∈chg l,¬(2*c.i1<=t/\(t:Int)<=2*c.i2):=λc A q=>by
    obtain⟨r,I,cr⟩:=lY (rwL h.flat A)
    refine xEEAAA ((G.g r I).bd) λu v D C H K=>?_
    exact hn _ (e9 I) (Y150 q ((G.g r I).c.mem c cr):2*(s1 r).toNat<=t/\t<=2*(s2 r).toNat)
   have mm:=c.cq.mem
   delta lnf
   obtain⟨k,rfl |rfl⟩:=par t
   ·rw[f8 λc A q=>Z c A (by exact Y149 q (mm c A)),show 2*k%2=0 from ev2 k];rfl
   ·rw[lL λc A q=>Z c A (Y148 q),show (2*k+1)%2=1 from od2 k,show (2*k+1)/2=k by exact Y36 zzD zzE];rfl
  ·show cat _ 0 (2*a.length+1)=b
   have:=y5 c.cq rfl rfl (Int.le_refl 0) (Int.le_refl _) (Int.le_refl _)
   rw[Nat.sub_zero]at this
   rw[show (0:Nat)=2*0 from rfl,this,xP];rfl),(by
  intro n0 l N h c
  obtain⟨S,M⟩:=(by
   intro n z n0 ps h
   cases h with
   |nil h=>exact⟨⟨.nil,λ_ h=>ca h cx⟩,λx=>⟨λw=>xEA w λ_ h _=>ca h cx,λy=>xEA y λ_ h _=>ca h cx⟩⟩
   | @cons _ p r B s J=>
    obtain⟨S,M⟩:=(by
     intro n z n0 e ps h
     induction h with
     | @nil e J=>
      intro lo e0 L O
      rw[(by exact λn z lo Q=>rfl:∀(n z lo Q:Int),rc n z lo Q []= [(lo,Q)])]
      refine⟨⟨List.pairwise_singleton _ _,λp F=>by exact rwL (dc.mp F) ⟨Int.le_refl _,L,Int.min_le_left ..⟩⟩,λx=>⟨λw=>xEA w λq i h=>?_,λh=>?_⟩⟩
      ·rw[dc.mp i]at h;exact .inl h
      ·rcases h with h |⟨p,F,_⟩
       ·exact⟨_,dc.mpr rfl,h⟩
       ·exact ca F cx
     | @cons e p r B s J Y=>
      intro lo e0 L O
      rw[rc_c]
      by_cases c:max 0 (p.1-n)<=min z (e+n)
      ·rw[bp c,f4]
       obtain⟨S,M⟩:=Y (Y75 B s e0) (zzI4 0x12229496948a44b49452a969545252d250954a95424a54884a4a9484896ca80b43ac2b2802d0eca4103d0821eca0103d0ab087aa9087a68087 [e,p.fst,p.snd,lo,n,z] ⋯ B s O c) (zzI3 0x49552aa122ca8103d0ab0aca0103d0ab087aa9087a68087 [e,p.fst,p.snd,lo,n] ⋯ B s O)
       refine⟨S,λx=>Iff.trans (M x) ⟨λh=>?_,λh=>?_⟩⟩
       ·rcases h with h |⟨q,i,h⟩
        ·by_cases d:x<=2*min z (e+n)
         ·exact .inl ⟨h.1,d⟩
         ·exact .inr ⟨p,ce,zzI2 0x12624cd26c936d26c936d2624cd26693126da4d926da4d9266932ca68040f420be0a8a6b02a0c2fac0841e9ac0a83a68040f42087 [p.fst,n,z,e,x] ⋯ c d,h.2⟩
        ·exact .inr ⟨q,b4 _ i,h⟩
       ·rcases h with h |⟨q,i,h⟩
        ·exact .inl ⟨h.1,zzI3 0x120966d2c246eea80b430beb02ba802d0c2fac0acac2f82147aa9087a68087 [e,p.fst,p.snd,lo,x,z,n] ⋯ B s h⟩
        ·rcases du.mp i with rfl |i
         ·exact .inl ⟨zzI3 0x1626589962d962d90b642d909909aca02f82ae9087aae02d0c2fac0acaab040f420be0851eaa4103d0a8087 [lo,e,n,q.fst,x,z,q.snd] ⋯ O h B,h.2⟩
         ·exact .inr ⟨q,i,h⟩
      ·rw[bw c,ik]
       refine xA (Y (Y75 B s e0) (zzI5 0x112504d154855a2b02c0e8a8103d082b2b087a40f421eba821eaa421e803d087 [n,e,p.fst,p.snd,z] ⋯ n0 B s e0 J.le) (Y70 s)) λS M=>?_
       refine⟨⟨c3.mpr ⟨λq i=>(zzI2 0x1520a905541550aa44242aa885415505541520a90aaa2150aa4424b01f69ac0a83002aad0adb0216ca68040f420851e8a6b02a0e9a0103d082107 [p.fst,n,z,e,q.fst,q.snd] ⋯ c (S.b q i):min z (e+n)<q.1),S.p⟩,λq i=>?_⟩,λx=>⟨λy=>xEA y λq i h=>?_,λh=>?_⟩⟩
       ·rcases du.mp i with rfl |i
        ·exact⟨Int.le_refl _,L,Int.min_le_left ..⟩
        ·exact⟨zzI3 0xa902aa05484aa84aa8152055425484a902aa089122a22aa054822a2448ada02a6e0aeb4216daec040f420851e8aea0290ebb0103d082107aea0290e8087 [lo,z,e,n,p.fst,q.fst,q.snd] ⋯ L c (S.b q i),(S.b q i).2⟩
       ·rcases du.mp i with rfl |i
        ·exact .inl h
        ·rcases(M x).mp ⟨q,i,h⟩ with h |⟨u,hu,h⟩
         ·exact .inr ⟨p,ce,h⟩
         ·exact .inr ⟨u,b4 _ hu,h⟩
       ·rcases h with h |⟨u,hu,h⟩
        ·exact⟨_,ce,h⟩
        ·rcases du.mp hu with rfl |hu
         ·refine xEA ((M x).mpr (.inl h)) λq i h=>?_
          exact⟨q,b4 _ i,h⟩
         ·refine xEA ((M x).mpr (.inr ⟨u,hu,h⟩)) λq i h=>?_
          exact⟨q,b4 _ i,h⟩:∀{n z:Int}(n0:0<=n){e:Int}{ps:aq (Int×Int)}(h:Srt z e ps),∀ {lo:Int},0<=e->lo<=min z (e+n)->lo<=max 0 (e-n)->SepI z lo (rc n z lo (min z (e+n)) ps)/\ ∀ x:Int,(∃ q∈rc n z lo (min z (e+n)) ps,2*q.1<=x/\x<=2*q.2)↔(2*lo<=x/\x<=2*min z (e+n))\/∃ p∈ps,2*max 0 (p.1-n)<=x/\x<=2*min z (p.2+n)) n0 J (Y10 s B) (zzI4 0x44a82d15215a2a02b0e8a4103d082aea087a40f421eaa421e803d087 [n,p.fst,p.snd,z] ⋯ n0 s B J.le) (Y70 s)
    refine⟨⟨S.p,λq i=>⟨zzI1 0x8a8aa03d0acac2aea085aa9a0103d082147 [p.fst,n,q.fst,q.snd,z] ⋯ (S.b q i),(S.b q i).2⟩⟩,λx=>Iff.trans (M x) ⟨λh=>?_,λh=>?_⟩⟩
    ·rcases h with h |⟨u,hu,h⟩
     ·exact⟨p,ce,h⟩
     ·exact⟨u,b4 _ hu,h⟩
    ·obtain⟨u,hu,h⟩:=h
     rcases du.mp hu with rfl |hu
     ·exact .inl h
     ·exact .inr ⟨u,hu,h⟩:∀{n z:Int}(n0:0<=n){ps:aq (Int×Int)}(h:Srt z 0 ps),SepI z 0 (reach n z ps)/\∀ x:Int,(∃ q∈reach n z ps,2*q.1<=x/\x<=2*q.2)↔∃ p∈ps,2*max 0 (p.1-n)<=x/\x<=2*min z (p.2+n)) n0 c.srt
  rw[<-h.rI n0]at S M
  have bd:∀ g∈N,0<=s1 g/\s1 g<=s2 g/\s2 g<=a.length:=λg j=>S.b _ (e9 j)
  refine⟨⟨?_,λp F=>?_⟩,λk hk=>?_⟩
  ·rw[ja]
   exact(List.Pairwise.and_mem.mp (ja.mp S.p)).imp λ{g W} q=>(Y67 (bd g q.1) q.2.2:2*(s2 g).toNat+1<2*(s1 W).toNat)
  ·obtain⟨g,j,rfl⟩:=gw.mp F
   exact(Y66 (bd g j):2*(s1 g).toNat<=2*(s2 g).toNat/\2*(s2 g).toNat<_)
  ·have X:=M k
   constructor
   ·refine λq=>(xEA (ms.mp q) λo R q=>?_)
    obtain⟨p,F,T,U⟩:=X.mpr ⟨pI o,e9 R,by exact(Y65 (cn (cp.mp q).1):2*max 0 (o.i1-n)<=_),by exact(Y64 (cn (cp.mp q).2):_<=2*min _ (o.i2+n))⟩
    obtain⟨g,j,rfl⟩:=gw.mp F
    exact⟨rg g,e9 j,by exact(Y63 T:2*(s1 g).toNat<=k),by exact(Y62 U:k<=2*(s2 g).toNat)⟩
   ·rintro ⟨p,F,T,U⟩
    obtain⟨g,j,rfl⟩:=gw.mp F
    refine xEA (X.mp ⟨sI g,e9 j,by exact(Y61 T:2*s1 g<=_),by exact(Y60 (bd g j) U:_<=2*s2 g)⟩) λq i r=>?_
    obtain⟨o,R,rfl⟩:=gw.mp i
    exact ms.mpr ⟨o,R,cp.mpr ⟨bp (Y59 r.1),bp (Y58 r.2)⟩⟩:∀(n0:0<=n){l:aq Op}{N:aq (aq Op)}(h:Gp n a b l N)(c:Cod a b none 0 0 l),Mks a b n l N) n0 h c,λg j=>(xEEAAA ((G.g g j).bd) λu v D C H K=>?_)⟩
 have A:chs l (rg g)=chg g:=by
  refine rwR (aHh G g j) (rwL h.flat (rwL List.filter_filter (sy λo _=>?_)))
  rw[Bool.and_comm]
  refine cu (· && _) ?_
  show(decide (((2*(s1 g).toNat:Nat):Int)<=2*o.i1) && decide (2*o.i1<=((2*(s2 g).toNat:Nat):Int)))=_
  rw[show decide (((2*(s1 g).toNat:Nat):Int)<=2*o.i1)=decide (s1 g<=o.i1) from fk.mpr ⟨λz=>zzI1 0x6b6a9a02a42fa8a28102f84087 [s1 g,o.i1] ⋯ z,λz=>Y172 D z⟩,show decide (2*o.i1<=((2*(s2 g).toNat:Nat):Int))=decide (o.i1<=s2 g) from fk.mpr ⟨λz=>Y171 C z,λz=>zzI1 0x5b4e8a29102f84a02f82a68087 [o.i1,s2 g] ⋯ z⟩]
 delta mZ
 exact rwL A (rwL (show ((2*(s1 g).toNat/2:Nat):Int)=s1 g by exact Y169 D zzD zzE) (rwL (show ((2*(s2 g).toNat/2:Nat):Int)=s2 g by exact Y169 C zzD zzE) (cu (λz=>(⟨sl a (s1 g) (s2 g),z,chg g⟩:Re)) (Y168 (h.each E G g j)))))
theorem Side.told(S:Side e a b n w l c)(D:SdP a b (cel a b (chg l)) w (c.map (hu a b w)) P)(p:Pe)(d:p∈P):(ofw w p.its).map Hu.r=dR e a l (c.map rg) (2*p.lo) (2*p.hi):=by
 rw[D.its p d]
 delta dR
 rw[uv,uv,qf,qf]
 have:c.filter (inP p∘hu a b w)=c.filter ((λq:Nat×Nat=>decide (2*p.lo<=q.1) && decide (q.2<=2*p.hi))∘rg):=sy λg h=>by
  show(decide (p.lo<=(s1 g).toNat) && decide ((s2 g).toNat<=p.hi))=(decide (2*p.lo<=2*(s1 g).toNat) && decide (2*(s2 g).toNat<=2*p.hi))
  rw[show decide (p.lo<=(s1 g).toNat)=decide (2*p.lo<=2*(s1 g).toNat) from fk.mpr ⟨λz=>Y167 z,λz=>Y166 z⟩,show decide ((s2 g).toNat<=p.hi)=decide (2*(s2 g).toNat<=2*p.hi) from fk.mpr ⟨λz=>Y165 z,λz=>Y164 z⟩]
 exact rwL this (lI λg f=>(S.T g (h7.mp f).1).symm)
structure Mrg(e:Op->Op->cw)(a b0 b1:aq Int)(n0 n1:Int)(l0 l1:aq Op)(g0 g1:aq (aq Op))(M O:aq Hv):Prop where
 S0:Side e a b0 n0 aL l0 g0
 S1:Side e a b1 n1 be l1 g1
 hM:M.map Hv.h=g0.map (hu a b0 aL)
 hO:O.map Hv.h=g1.map (hu a b1 be)
 z:a.length<1000
theorem Mrg.two(m:Mrg e a b0 b1 n0 n1 l0 l1 g0 g1 M O):Two a.length M O:=by
 refine⟨m.hM▸m.S0.X.p,m.hO▸m.S1.X.p,λx c=>?_,λx c=>?_,m.z⟩
 ·have h:=m.hM▸e9 c
  have b:=m.S0.X.b _ h
  obtain⟨g,_,q⟩:=gw.mp h
  exact⟨b.1,b.2,by rw[<-q];rfl⟩
 ·have h:=m.hO▸e9 c
  have b:=m.S1.X.b _ h
  obtain⟨g,_,q⟩:=gw.mp h
  exact⟨b.1,b.2,by rw[<-q];rfl⟩
def mps(M O:aq Hv):aq Pe:=pcs ((both M O).map Hv.h)
theorem Mrg.ok(m:Mrg e a b0 b1 n0 n1 l0 l1 g0 g1 M O):PeS a.length 0 (mps M O)/\((mps M O).map Pe.its).flatten=(both M O).map Hv.h/\∀ x:Nat,(∃ p∈mps M O,2*p.lo<=x/\x<=2*p.hi)↔∃ h∈(both M O).map Hv.h,2*h.lo<=x/\x<=2*h.hi:=pcs_ok m.two.low λh b=>by
  obtain⟨x,c,rfl⟩:=gw.mp b
  exact m.two.bd x c
theorem Mrg.d0(m:Mrg e a b0 b1 n0 n1 l0 l1 g0 g1 M O):SdP a b0 (cel a b0 (chg l0)) aL (g0.map (hu a b0 aL)) (mps M O):=⟨m.S0.X,m.ok.1,by rw[m.ok.2.1,m.two.of.1,m.hM]⟩
theorem Mrg.d1(m:Mrg e a b0 b1 n0 n1 l0 l1 g0 g1 M O):SdP a b1 (cel a b1 (chg l1)) be (g1.map (hu a b1 be)) (mps M O):=⟨m.S1.X,m.ok.1,by rw[m.ok.2.1,m.two.of.2,m.hO]⟩
theorem Mrg.row(m:Mrg e a b0 b1 n0 n1 l0 l1 g0 g1 M O)(b:p∈mps M O):rowM a s p=rowD a (cel a b0 (chg l0)) (cel a b1 (chg l1)) (dR e a l0 (g0.map rg)) (dR e a l1 (g1.map rg)) s (pg p):=by
 unfold rowM rowD pg
 rw[m.d0.tx p b,m.d1.tx p b,m.S0.told m.d0 p b,m.S1.told m.d1 p b]
 rw[hf0,hf0]
 rfl
theorem Mrg.rows(m:Mrg e a b0 b1 n0 n1 l0 l1 g0 g1 M O):∀ {R:aq Pe}{s:Nat},(∀ p∈R,p∈mps M O)->g7 a R s=vN a (cel a b0 (chg l0)) (cel a b1 (chg l1)) (dR e a l0 (g0.map rg)) (dR e a l1 (g1.map rg)) (R.map pg) s/\i6 R s=qB (R.map pg) s:=λ{R}=>by
 induction R with
 |nil=>exact λd=>⟨rfl,rfl⟩
 |cons p R b=>
  intro s h
  have I:=b (s:=p.hi) λq c=>h q (b4 _ c)
  exact rwL jf (rwL oG (rwL aIr (rwL tP (rwL aJv (rwL (m.row (h p ce)) (rwL I.1 (rwL I.2 (rwL (by exact(Y35 zzD zzE:2*p.hi/2=p.hi):(pg p).2/2=p.hi) ⟨rfl,rfl⟩))))))))
theorem Mrg.spt(m:Mrg e a b0 b1 n0 n1 l0 l1 g0 g1 M O):Spt (2*a.length+1) ((mps M O).map pg):=by
 have S:=m.ok.1
 refine⟨?_,λp c=>?_⟩
 ·rw[ja]
  exact S.p.imp λ{p q} h=>(zzM1 0xba42f81f41f680be00002907da00007 [p.hi,q.lo] ⋯ h:2*p.hi+1<2*q.lo)
 ·obtain⟨q,d,rfl⟩:=gw.mp c
  exact(zzM1 0x162607da82f8007da42f800290bea02f8016aa40a68005a00f40147 [q.lo,q.hi,a.length] ⋯ (S.b q d):2*q.lo<=2*q.hi/\2*q.hi<_)
def extK(rm:Nat)(lo:Lo)(K:SK):EK:=λv H2=>Lf (H2[rm]?.bind MO.own) λvs=>Lf (own H2 v) λws=>vs.length+ws.length<1000000/\K .next lo (H2.set rm (.list (vs++ws)))
theorem uN(h:H[rm]? =ao (.list vs))(h':H[r]? =ao (.list ws))(a:vs.length+ws.length<1000000)(q:K .next lo (H.set rm (.list (vs++ws)))):extK rm lo K (.ref r) H:=Lf.mk (c7 h) (Lf.mk (c7 h') ⟨a,q⟩)
theorem mJ:∀ (n:Nat) (x:Int),m8 x 1 n=(List.range n).map λk=>V.int (x+(k:Nat))
 |0,x=>rfl
 |n+1,x=>by
  rw[(by exact λa c n=>rfl:∀(a c:Int)(n:Nat),m8 a c (n+1)= .int a::m8 (a+c) c n),mJ n (x+1),List.range_succ_eq_map,jf,qf]
  congr 1
  ·rw[Int.natCast_zero,nh]
  ·refine lI λk q=>?_
   show V.int (x+1+(k:Int))=V.int (x+((k+1:Nat):Int))
   rw[Int.natCast_add,kz,Int.add_comm 1];rfl
def nv(k:Nat):V:=.int (k:Nat)
theorem lU(n:Nat):m8 0 1 n=(List.range n).map nv:=by
 rw[mJ]
 exact lI λk q=>cu V.int (me _)
theorem aEa(q:Q (.rng 0 n 1) H):b7 [.int n] H Q:=kch ⋯ q
def eRL(x:Str):EF:=aI b7 (esC (aI bQ (esC (eN x) esN)) esN)
theorem aA3{α:Type}{out:α->aq V}(h:∀ x,(out x).length<=1):∀ l:aq α,(l.flatMap out).length<=l.length:=λn=>by
 induction n with
 |nil=>
  exact c5 _
 |cons x l a=>
  exact rwL gj (rwL bx (rwL e6 (zzM2 0x541f69028a80001f6a007a68007 [(List.flatMap out l).length,l.length,(out x).length] ⋯ a (h x))))
theorem zB(h:H[r]? =ao (.list vs))(b:vs[k]? =ao v)(c:vs.length<100000)(q:Q v H):Lp (aQ (.ref r) (nv k) H) Q:=by
 have a:=(List.getElem?_eq_some_iff.mp b).1
 exact Lp.mk (qD h ⟨A264,A265 c a⟩ (fS (eO k) (A266 a)) (by rw[fo];exact b)) q
def numO(sc:aq Int)(k:Nat):Int:=(k:Int)*(k+1)/2+(pk sc (ao (k:Int)) none (ao 24)).sum
theorem bK:upd lo x v x=ao v:=cj rfl
theorem lP{a:Nat}(q:E (upd lo x v) H λw H1=>Lf (H1[a]?.bind MO.own) λvs=>vs.length<1000000/\P (upd lo x v) (H1.set a (.list (vs++[w])))):fF (aN x) (tK be) (aV E a) v lo H P:=q
theorem oE{a:Nat}(q:F (upd lo x v) H λw H1=>Lf (tr w H1) λb=>bif b then(E (upd lo x v) H1 λw H1=>Lf (H1[a]?.bind MO.own) λvs=>vs.length<1000000/\P (upd lo x v) (H1.set a (.list (vs++[w])))) else P (upd lo x v) H1):fF (aN x) (aW (tE F) (tK be)) (aV E a) v lo H P:=kch ⋯ q
theorem eP(h:f lo H λv e=>f1 lo e λa H1=>f2 lo H1 λb d=>f3 lo d λc g=>Lf (prt a) λpa=>Lf (prt b) λpb=>Lf (prt c) λpc=>Lp (slc v pa pb pc g) Q):dK f f1 f2 f3 lo H Q:=h
theorem wD:hide [".0","k"] lo "script" =lo "script" :=by kernel_rfl
theorem v6:upd lo "k" v "script" =lo "script" :=by kernel_rfl
def Evv(f:EF)(lo:Lo)(H:MH)(v:V):Prop:=∀ Q:EK,Q v H->f lo H Q
theorem Evv.bin{a b:V}(c:Evv f1 lo H a)(d:Evv f2 lo H b)(e:g a b H=ao (w,H)):Evv (aA g f1 f2) lo H w:=λQ q=>bE (c _ (d _ (Lp.mk e q)))
theorem Evv.n(h:lo x=ao v):Evv (eN x) lo H v:=λQ q=>aR h q
theorem Evv.k:Evv (eK v) lo H v:=λQ q=>q
theorem jQ(h: -1000000000<x/\x<1000000000):d3 (.int x) (.int y) H=ao (.int (x*y),H):=cj (bp h)
theorem l8(h:0<y/\y<1000000000):fY (.int x) (.int y) H=ao (.int (x/y),H):=cj (bp h)
theorem aAg(h:0<y):mL (.int x) (.int y) H=ao (.int (x%y),H):=cj (bp h)
theorem kB:aP (.int x) (.int y) H=ao (.int (x+y),H):=rfl
theorem numE_i(h:LI H rs c)(d:c.length<1000)(a:k<24)(b:lo "k" =ao (nv k))(hs:lo "script" =ao (.ref rs))(q:∀ {H'},Hx H H'->Q (.int (numO c k)) H'):numE lo H Q:=by
 refine bE ((by exact λ{k} a b=>.bin (.bin (.n b) (.bin (.n b) .k kB) (jQ ⟨(zzM0 0x1a28101f68779d72c20f45002 [k] ⋯),zzM1 0x5779d72c20f41f68a0400263d07da00007 [k] ⋯ a⟩)) .k (l8 (by decide)):∀{k:Nat}(a:k<24)(b:lo "k" =ao (nv k)),Evv (aA fY (aA d3 (eN "k") (aA aP (eN "k") (eK (.int 1)))) (eK (.int 2))) lo H (.int ((k:Int)*(k+1)/2))) a b _ (b6 (aO (eP (aR hs (aR b (cB (cB (Lf.mk rfl (Lf.mk rfl (Lf.mk rfl (gK h (by rw[bq];exact zzM1 0x15ec3283d07da0001fa3d07da00007 [c.length] ⋯ d) (by decide) (bL ?_)))))))))))))
 rw[mK]
 exact sum_i (v0 _ _) (Lp.mk rfl (q (.app _ _)))
theorem law_0(hs:lo "script" =ao (.ref rs))(h:LI H rs a)(c:a.length<1000)(k:∀ {H' r}{l:aq Int},Hx H H'->H'[r]? =ao (.list (l.map V.int))->l.length=24->K .next (upd lo "numbers" (.ref r)) H'):aBe X lo H K:=by
 exact cC (f7 nv (λk=>[V.int (numO a k)]) (λlo=>lo "script" =ao (.ref rs)) (List.range 24) (λ{P} q=>kch (B:=rOk 0 24 1=be/\P (0,24,1) H) ⋯ ⟨by kernel_rfl,q⟩) (iH 24 0) (wD.trans hs) (ec (aA3 (out:=λk=>[V.int (numO a k)]) (λf=>c5 1) _) (by rw[hB];decide)) (λk d=>(oH (J:=λlo=>lo "k" =ao (nv k)/\lo "script" =ao (.ref rs)) (aH H) (λi q=>q ⟨bK,v6.trans i⟩ (v6.trans i)) ⟨λj b e q=>numE_i (b.li h) c (m0.mp d) j.1 j.2 λx1=>q (b.trans x1) (x1 _ _ e)⟩)) λ{H'} b h'=>(k (l:=(List.range 24).map (numO a)) b (rwL h' (rwL qf (cu (λl=>ao (MO.list l)) (List.map_eq_flatMap ..).symm))) (by rw[bq,hB])))
theorem in2_ok:oIn not (.int z) (.tup [.int p,.int q]) H=ao (.bool (!([PyData.int p,PyData.int q].any λy=>PyData.eqv y (.int z))),H):=by kernel_rfl
theorem qA{e:Int->Int}{a:Int->cw}{l:aq Int}(b:lo x=ao (.ref r))(h:H[r]? =ao (.list (l.map V.int)))(p:l.length<=24)(u:∀ {lo:Lo}{H:MH}{j:Nat}{z:Int}{P:LK},(bif a z then(Lf (H[j]?.bind MO.own) λvs=>vs.length<1000000/\P (upd lo "x" (.int z)) (H.set j (.list (vs++[.int (e z)])))) else P (upd lo "x" (.int z)) H)->fF (aN "x") T (aV E j) (.int z) lo H P)(k:∀ {H' m}{l':aq Int},Hx H H'->H'[m]? =ao (.list (l'.map V.int))->l'.length<=24->H[m]? =none->Q (.ref m) H'):bJ (bA C) [".0","x"] (iL (eN x)) (aN "x") T (aV E) lo H Q:=by
 have o:∀ l:aq Int,(l.flatMap λz=>bif a z then [e z] else []).length<=l.length:=λl=>by
  induction l with
  |nil=>exact c5 _
  |cons z l d=>
   rw[gj,bx,e6]
   cases a z with
   |false=>exact Nat.le_trans (se (Nat.zero_add _)) (lw d)
   |true=>exact Nat.le_trans (se (vc 1 _)) (eH d)
 have t:=(by
  intro α g l
  induction l with
  |nil=>rfl
  |cons x l d=>rw[gj,gj,dv,d]:∀{α:Type}(g:α->aq Int)(l:aq α),l.flatMap (λx=>(g x).map V.int)=(l.flatMap g).map V.int) (λz=>bif a z then [e z] else []) l
 refine (f7 V.int (λz=>(bif a z then [e z] else []).map V.int) (λy=>s7) l (wB (λq=>aR b q) (aG h)) (f6 (aG h) _ 0 rfl) trivial (by rw[t,bq];exact A273 p (o l)) (λz w=>⟨λ{v H1 acc P} i b n c f=>u ?_⟩) (λ{H'} b h'=>k (l':=l.flatMap λz=>bif a z then [e z] else []) b (by rw[h',t]) (A274 p (o l)) (aH H)))
 cases s:a z with
 |false=>rw[s]at f;exact bC (put0 b n rfl trivial f)
 |true=>rw[s]at f c;exact bH (put1 (aH H) b n c rfl trivial f)
theorem uX{a:Prop}(h:bif c then A else B)(f:A->a):bif c then a else B:=by
 cases c with
 |false=>exact h
 |true=>exact f h
def outC(o:Op):aq V:=bif !o.tag.isEq then [o.v] else []
theorem pV:∀ l:aq Op,l.flatMap outC=(chg l).map Op.v
 | []=>rfl
 |o::l=>by
  rw[gj,pV l]
  delta outC
  cases e:o.tag.isEq with
  |true=>rw[cX e];rfl
  |false=>rw[iN e];rfl
theorem neE_i{o:Op}(a:lo "code" =ao o.v)(q:Q (.bool (!o.tag.isEq)) H):neE lo H Q:=bE (bE (aR a (cB (xM (cB (Lp.mk (by delta bN;rw[oV];rfl) q))))))
def gv(p:Nat×aq Op):V:=.ref p.1
def HG(H:MH)(ps:aq (Nat×aq Op)):Prop:=∀ p∈ps,H[p.1]? =ao (.list (p.2.map Op.v))
theorem HG.hx(h:HG B ps)(x:Hx B H):HG H ps:=λp a=>x _ _ (h p a)
theorem GsA.hg{b:aq (aq Op)}(h:GsA H it gi c rs b):∃ ps:aq (Nat×aq Op),HG H ps/\rs.map V.ref=ps.map gv/\b=ps.map Prod.snd:=by
 induction h with
 |nil=>exact⟨[],(λq h=>ca h List.not_mem_nil),rfl,rfl⟩
 | @cons r g rs b h _ _ _ _ d=>
  refine cU d λps e f i=>⟨(r,g)::ps,λp a=>?_,by rw[jf,f];rfl,by rw[jf,i]⟩
  rcases du.mp a with rfl |a
  ·exact h
  ·exact e p a
theorem ne_i{P:cw->MH->Prop}(h:eqv H x y=ao be)(q:P aL H):Lp (bN not x y H) λv H1=>Lf (tr v H1) λb=>P b H1:=Lp.mk (by delta bN;rw[h];rfl) (Lf.mk rfl q)
theorem jX{α:Type}(g:α->V)(l:aq α):(l.flatMap λx=>[g x])=l.map g:=(List.map_eq_flatMap ..).symm
theorem zW{a:Nat}(b:B[a]? =none)(h:∀ {lo:Lo}{H:MH}{acc:aq V}{Q:EK},lo x=ao w->Hx B H->H[a]? =ao (.list acc)->(∀ {H'},Hx B H'->H'[a]? =ao (.list acc)->Q v H')->f lo H Q):Put (λc=>s7) B a [v] (fF (aN x) (tK be) (aV f a) w):=oH b (λi q=>q bK trivial) ⟨h⟩
theorem aEy(q:Q (.int (-1)) H):n9 (eK (.int 1)) lo H Q:=q
theorem g0_i(b:lo x=ao (.ref r))(h:H[r]? =ao (.list (g.map Op.v)))(a:g≠ [])(q:∀ o:Op,o.i1=s1 g->o.j1=t1 g->Q o.v H):aA aQ (eN x) (eK (.int 0)) lo H Q:=bE (aR b (cB ((by
 cases g with
 |nil=>exact ca rfl a
 |cons o g=>exact Lp.mk (qD h (by decide) (seq_0 _) rfl) (q o rfl rfl)))))
theorem g1_i(b:lo x=ao (.ref r))(h:H[r]? =ao (.list (g.map Op.v)))(a:g≠ [])(q:∀ o:Op,o.i2=s2 g->o.j2=t2 g->Q o.v H):aA aQ (eN x) (n9 (eK (.int 1))) lo H Q:=bE (aR b (aEy ((by
 have e:=List.dropLast_concat_getLast a
 have s:=(by exact λo l=>⟨lR o l,zN o l⟩:∀(o:Op)(l:aq Op),s2 (l++[o])=o.i2/\t2 (l++[o])=o.j2) (g.getLast a) g.dropLast
 rw[e]at s
 rw[<-e,dv]at h
 exact Lp.mk (qD h (by decide) (by exact rwL bx (vM _)) (by rw[gO (c5 _),ox];rfl)) (q _ s.1.symm s.2.symm)))))
theorem pK{α:Type}{K:ItK C}{g:BF}(f:α->V)(a:aq α->Lo->MH->Prop)(e:∀ {l lo H},a l lo H->Hx B H)(k:∀ {lo H},a [] lo H->Q lo H)(hs:∀ {x l lo H P},a (x::l) lo H->(∀ {b H'},a l b H'->P b H')->fF tgt t (g d) (f x) lo H P):∀ (l:aq α){it:K.σ}{lo:Lo}{H:MH},Its K B it (l.map f)->a l lo H->lS K tgt t (g d) (l.length+1) it lo H Q:=λn=>by
 induction n with
 |nil=>
  intro it lo H c i
  cases c with
  |nil h=>exact h (e i) (k i)
 |cons x l j=>
  intro it lo H c i
  cases c with
  |cons h m=>exact h (e i) (hs i λi'=>j m i')
theorem Lo.ne(h:y≠x):upd lo x v y=lo y:=cc h
theorem aS(h:g lo H K):bM g K .next lo H:=h
def Fs(l:aq (Str×V))(lo:Lo):Prop:=∀ x v,l.lookup x=ao v->lo x=ao v
theorem Fs.cons(h:Fs l lo)(x:Str)(v:V):Fs ((x,v)::l) (upd lo x v):=λy w e=>by
 rw[List.lookup]at e
 by_cases q:y=x
 ·subst q
  rw[gy]at e
  exact bK.trans e
 ·rw[show (y==x)=aL by simpa using q]at e
  exact(Lo.ne q).trans (h y w e)
def rv{β:Type}(p:Nat×β):V:=.ref p.1
def HB{β:Type}(ob:β->aq V)(H:MH)(ps:aq (Nat×β)):Prop:=∀ p∈ps,H[p.1]? =ao (.list (ob p.2))
inductive NIv{α β:Type}(ob:β->aq V)(c:α->β)(I:Lo->Prop)(B:MH)(ai:Nat)(l:aq α)(rest:aq α)(lo:Lo)(H:MH):Prop
 |mk {done:aq (Nat×β)} (i:I lo) (hx:Hx B H) (h:H[ai]? =ao (.list (done.map rv))) (hd:∀ d∈done,H[d.1]? =ao (.list (ob d.2))/\d.1≠ai) (t:done.map Prod.snd++rest.map c=l.map c) (hr:∀ x∈rest,x∈l) (hf:∀ d∈done,B[d.1]? =none):NIv ob c I B ai l rest lo H
theorem hd_set{f:Type}{ob:f->aq V}{b:f}{done:aq (Nat×f)}(g:∀ d∈done,H[d.1]? =ao (.list (ob d.2))/\d.1≠c)(x:Hx H e)(h:e[r]? =ao (.list (ob b)))(n:r≠c):∀ d∈done++[(r,b)],(e.set c m)[d.1]? =ao (.list (ob d.2))/\d.1≠c:=λd a=>by
 rcases gb.mp a with a |a
 ·have:=g d a
  exact⟨aE (x _ _ this.1) this.2.symm,this.2⟩
 ·exact rwL (dc.mp a) ⟨aE h n.symm,n⟩
def off(l:aq (Str×V))(hid:aq Str):cw:=l.all λp=> !hid.contains p.1
theorem Fs.hide(F:Fs l lo){a:aq Str}(h:off l a=be):Fs l (hide a lo):=λx v e=>by
 have:=hZ.mp h _ (mem_of_lookup e)
 show(if a.contains x then none else lo x)=_
 cases c:a.contains x with
 |true=>rw[show a.contains (x,v).1=be from c]at this;cases this
 |false=>exact F x v e
theorem Fs.up(F:Fs l lo)(h:off l [y]=be):Fs l (upd lo y w):=λx v e=>by
 have:=hZ.mp h _ (mem_of_lookup e)
 refine(Lo.ne λq=>?_).trans (F x v e)
 rw[show [y].contains (x,v).1=be from by exact rwL (show (x,v).1=y from q) (m1.mpr ce)]at this
 cases this
theorem Fs.re(F:Fs l lo)(m:aq (Str×V))(h:m.map (λp=>l.lookup p.1)=m.map λp=>ao p.2):Fs m lo:=λx v e=>F x v (List.map_inj_left.mp h _ (mem_of_lookup e))
theorem aF3(b: -1000000<z/\z<1000000)(a:Evv E lo H (.int z))(q:P (0,z.toNat,1) H):iR (aI b7 (esC E esN)) lo H P:=by
 refine a _ (bL (aEa (Lf.mk rfl ⟨?_,?_⟩)))
 ·delta rOk
  rw[bp b.1,bp b.2];rfl
 ·show P (0,(z-0).toNat,1) H
  rw[Int.sub_zero];exact q
theorem jU(a:lo x=ao (.ref r))(h:lst H (.ref r)=ao vs)(b:vs.length<100000):Evv (aI bQ (esC (eN x) esN)) lo H (.int vs.length):=λQ q=>(aR a (aFh h (kq b (by decide)) q))
theorem aDr:cP (.int x) (.int y) H=ao (.int (x-y),H):=rfl
theorem aGv(a:lo x=ao (.ref r))(h:H[r]? =ao (.list vs))(q:g lo H (extK r lo K)):aX (oA (eN x) g) lo H K:=kch (B:=Lf (lo x) λv=>Lf v.rf λi=>(∃ vs,H[i]? =ao (.list vs))/\g lo H (extK i lo K)) ⋯ (Lf.mk a (Lf.mk rfl ⟨⟨_,h⟩,q⟩))
def appK(r:Nat)(lo:Lo)(K:SK):EK:=λv H2=>Lf (H2[r]?.bind MO.own) λvs=>vs.length<1000000/\K .next lo (H2.set r (.list (vs++[v])))
theorem uY(a:lo x=ao (.ref r))(h:H[r]? =ao (.list vs))(q:g lo H (appK r lo K)):aX (cV (eN x) g) lo H K:=kch (B:=Lf (lo x) λv=>Lf v.rf λi=>(∃ vs,H[i]? =ao (.list vs))/\g lo H (appK i lo K)) ⋯ (Lf.mk a (Lf.mk rfl ⟨⟨_,h⟩,q⟩))
theorem qY(h:H[r]? =ao (.list vs))(a:vs.length<1000000)(q:K .next lo (H.set r (.list (vs++[v])))):appK r lo K v H:=Lf.mk (c7 h) ⟨a,q⟩
theorem kG{a:aq Str}(h:f lo H λv H1=>Lf v.tp λvs=>vs.length=a.length/\Lf (upds a.reverse vs.reverse lo) λlo'=>K .next lo' H1):cL a f lo H K:=h
theorem eL1_i(h:f lo H λv H1=>Lp (mkL [v] H1) Q):b8 (esC f esN) lo H Q:=h
theorem eqI_e:bN id (.int x) (.int y) H=ao (.bool (decide (x=y)),H):=by kernel_rfl
theorem fI(h:f lo H λb H1=>bif b then g lo H1 P else P aL H1):aW f g lo H P:=h
theorem pE(h:f lo H λv H1=>Lf (tr v H1) λb=>P b H1):tE f lo H P:=h
theorem nZ{b:cw}(h:P b H):tK b lo H P:=h
theorem tA{Q:bn (V×(aq V×Nat))->MH->Prop}(e:vs[p]? =o)(q:Q (o.map λv=>(v,(vs,p+1))) H):(jE C).nx (vs,p) H Q:=by
 subst e;exact q
theorem aA2(b:aq V->Lo->MH->Prop)(e:∀ {lo H},b [] lo H->Q .next lo H)(hs:∀ {v a lo H K},b (v::a) lo H->GoK (b a) Q K->tgt v lo H λlo1 H1=>body lo1 H1 K):∀ (a:aq V) (p:Nat){lo:Lo}{H:MH},vs.drop p=a->b a lo H->cZ (jE C) tgt body (a.length+1) (vs,p) lo H Q:=λn=>by
 induction n with
 |nil=>
  exact λp lo H c h=>(tA (ft (mj.mp c)) (e h))
 |cons v a d=>
  exact λp lo H c h=>(tA (o:=ao v) (by rw[<-qa,c];rfl) (hs h (.loop λh'=>d (p+1) (by rw[<-qb,c];rfl) h')))
theorem zK(h:f lo H λb H1=>bif b then P be H1 else g lo H1 P):tOr f g lo H P:=h
theorem lt_e:oLt (.int x) (.int y) H=ao (.bool (decide (x<y)),H):=rfl
theorem aF2{a:Nat}(h:a<=c)(cl:c<100000)(f:Evv e lo H (.int a))(g:Evv d lo H (.int c))(q:P ((a:Int),c-a,1) H):iR (aI b7 (esC e (esC d esN))) lo H P:=by
 refine f _ (aO (g _ (bL ((by exact λ{a b Q} q=>kch ⋯ q:∀{a b:Int}{Q:EK}(q:Q (.rng a b 1) H),b7 [.int a,.int b] H Q) (Lf.mk rfl ⟨?_,?_⟩)))))
 ·delta rOk
  rewrite [bp (show-1000000<(a:Int) by exact Y176),bp (show(a:Int)<1000000 by exact zzM2 0x55ec3283d07da2810008387583d07da40007a68007 [a,c] ⋯ h cl),bp (show-1000000<(c:Int) by exact Y176),bp (show(c:Int)<1000000 by exact Y175 cl)];rfl
 ·have:sZ (a:Int) (c:Int) 1=c-a:=by
   exact Y174
  exact rwL this q
theorem yC(a:lo "x" =ao (.int z))(k:Q (.bool (!([PyData.int p,PyData.int q].any λy=>PyData.eqv y (.int (z%8))))) H):(aA (oIn not) (aA mL (eN "x") (eK (.int 8))) (aY (esC (eK (.int p)) (esC (eK (.int q)) esN)))) lo H Q:=bE (Evv.bin (Evv.n a) .k (aAg (by decide)) _ (cT (aO (cB (aO (cB (bL ⟨(show 2<100 by decide),Lp.mk in2_ok k⟩)))))))
theorem yD(a:lo "x" =ao (.int z)):Evv (aA mL (aA fY (eN "x") (eK (.int 8))) (eK (.int 3))) lo H (.int (z/8%3)):=.bin (.bin (.n a) .k (l8 (by decide))) .k (aAg (by decide))
def tOp:AF:=b3 5 (asC (aN "tag") (asC (aN "i1") (asC (aN "i2") (asC (aN "j1") (asC (aN "j2") asN)))))
def loO(o:Op)(lo:Lo):Lo:=upd (upd (upd (upd (upd lo "tag" (.str o.tag.s)) "i1" (.int o.i1)) "i2" (.int o.i2)) "j1" (.int o.j1)) "j2" (.int o.j2)
theorem aDq(q:R (loO o lo) H):tOp o.v lo H R:=kch (B:=(5=5/\R (loO o lo) H)) ⋯ ⟨rfl,q⟩
def opL(o:Op)(F:aq (Str×V)):aq (Str×V):=("j2",.int o.j2)::("j1",.int o.j1)::("i2",.int o.i2)::("i1",.int o.i1)::("tag",.str o.tag.s)::F
theorem Fs.op(h:Fs F lo)(o:Op):Fs (opL o F) (loO o lo):=((((h.cons "tag" (.str o.tag.s)).cons "i1" (.int o.i1)).cons "i2" (.int o.i2)).cons "j1" (.int o.j1)).cons "j2" (.int o.j2)
theorem uZ(b:Evv f1 lo H (.ref r))(c:Evv f2 lo H (nv k))(h:H[r]? =ao (.list vs))(a:k<vs.length)(d:vs.length<100000)(q:R lo (H.set r (.list (vs.set k w)))):jG f1 f2 w lo H R:=b _ (c _ (Lf.mk (xQ h ⟨A264,A265 d a⟩ (by rw[fS (eO k) (A266 a),fo])) q))
theorem tag_eq(o:Op):eqv H (.str o.tag.s) (.str "equal")=ao o.tag.isEq:=by
 obtain⟨t,_,_,_,_⟩:=o
 cases t<;>kernel_rfl
theorem aDp{o:Op}(a:lo "tag" =ao (.str o.tag.s))(q:P (f o.tag.isEq) H):tE (aA (bN f) (eN "tag") (eK (.str "equal"))) lo H P:=pE (bE (aR a (cB (Lp.mk (by delta bN;rw[tag_eq];rfl) (Lf.mk rfl q)))))
theorem max_e(q:Q (.int (max x y)) H):mU [.int x,.int y] H Q:=kch ⋯ q
def Lx(H H':MH):Prop:=∀ i vs,lst H (.ref i)=ao vs->lst H' (.ref i)=ao vs
theorem Hx.lx(x:Hx H H'):Lx H H':=λq q e=>x.lst e
theorem oM(g:∀ {v:V}{d:iq},rd H n v=ao d->rd H' m v=ao d):∀ {vs:aq V}{b:aq iq},vs.mapM (rd H n)=ao b->vs.mapM (rd H' m)=ao b:=λ{vs}=>by
 induction vs with
 |nil=>exact λe=>e
 |cons v vs a=>
  intro b e
  rw[fe]at e ⊢
  refine xEA (bt.mp e) λd c e=>?_
  refine xEA (bt.mp e) λes f e=>?_
  exact rwL (g c) (rwL (a f) e)
theorem lT(x:Lx H H'):∀ {n:Nat}{v:V}{d:iq},rd H n v=ao d->rd H' n v=ao d:=λ{n}=>by
 induction n with
 |zero=>exact λe=>e
 |succ n a=>
  intro v d e
  cases v with
  |tup vs=>
   refine xEA (dr.mp e) λds h e=>?_
   exact dr.mpr ⟨ds,oM a h,e⟩
  |ref i=>
   refine xEA (bt.mp e) λvs h e=>?_
   refine xEA (dr.mp e) λds b e=>?_
   exact bt.mpr ⟨vs,x i vs h,dr.mpr ⟨ds,oM a b,e⟩⟩
  |_=>exact e
theorem xX:∀ {n:Nat}{v:V}{d:iq},rd H n v=ao d->rd H (n+1) v=ao d:=λ{n}=>by
 induction n with
 |zero=>
  intro v d e
  cases v with
  |tup vs=>cases e
  |ref i=>cases e
  |_=>exact e
 |succ n a=>
  intro v d e
  cases v with
  |tup vs=>
   refine xEA (dr.mp e) λds h e=>?_
   exact dr.mpr ⟨ds,oM a h,e⟩
  |ref i=>
   refine xEA (bt.mp e) λvs h e=>?_
   refine xEA (dr.mp e) λds b e=>?_
   exact bt.mpr ⟨vs,h,dr.mpr ⟨ds,oM a b,e⟩⟩
  |_=>exact e
theorem lA(n:Nat)(x:Int):rd H n (.int x)=ao (.int x):=by cases n<;>rfl
theorem rd_op(n:Nat)(o:Op):rd H (n+1) o.v=ao (dO o):=by
 show(([V.str o.tag.s,.int o.i1,.int o.i2,.int o.j1,.int o.j2].mapM (rd H n)).map PyData.tuple)=_
 have s:rd H n (.str o.tag.s)=ao (.str o.tag.s):=by cases n<;>rfl
 rw[fe,fe,fe,fe,fe,s,lA,lA,lA,lA];rfl
theorem iD(n:Nat){l:aq Int}(h:lst H (.ref r)=ao (l.map V.int)):rd H (n+1) (.ref r)=ao (.list (l.map dI)):=kH V.int dI h λx q=>lA n x
theorem aEd(n:Nat){l:aq Op}(h:lst H (.ref r)=ao (l.map Op.v)):rd H (n+2) (.ref r)=ao (.list (l.map dO)):=kH Op.v dO h λx q=>rd_op n x
def Off(r:Nat)(H:MH):MH:=H.set r .eset
theorem Off.lx(r:Nat)(H:MH):Lx (Off r H) H:=λi vs e=>by
 change (Off r H)[i]?.bind MO.vs=ao vs at e
 by_cases q:r=i
 ·subst q
  by_cases l:r<H.length
  ·rw[show (Off r H)[r]? =ao .eset from ef l]at e;cases e
  ·exact (rwR (show Off r H=H from List.set_eq_of_length_le (Nat.not_lt.mp l)) e)
 ·rwa [show (Off r H)[i]? =H[i]? from ez q]at e
def mrk(N:Nat)(f:Nat->cw):aq V:=(List.range N).map λp=>V.bool (f p)
theorem dL:(mrk N f).length=N:=(bq ..).trans hB
theorem map_set{α:Type}{f g:Nat->α}(h:∀ p,p<N->g p=if p=k then g k else f p)(w:α)(b:g k=w):((List.range N).map f).set k w=(List.range N).map g:=by
 refine ql (by rw[List.length_set,bq,bq]) λi c a=>?_
 rw[bq,hB]at a
 rw[List.getElem_set,oq,oq,List.getElem_range,h i a]
 by_cases q:k=i
 ·rw[cj q,cj q.symm,b]
 ·rw[cc q,cc λz=>q z.symm]
def mF(rc rm:Nat)(n:Int)(z:Nat):aq (Str×V):=[("codes",.ref rc),("n",.int n),("size",.int z),("marks",.ref rm)]
inductive M1(B:MH)(rc rm:Nat)(n:Int)(z:Nat)(l:aq Op)(rest:aq V)(lo:Lo)(H:MH):Prop
 |mk {done q:aq Op} (er:rest=q.map Op.v) (el:done++q=l) (F:Fs (mF rc rm n z) lo) (hx:Hx B H) (h:H[rm]? =ao (.list (mrk (2*z+1) (mkd n z (chg done))))):M1 B rc rm n z l rest lo H
inductive M2(B:MH)(rc rm:Nat)(n:Int)(z:Nat)(cs:aq Op)(u:Nat)(x:Int)(lo:Lo)(H:MH):Prop
 |mk {t:Nat} (ex:x=((u+t:Nat):Int)) (F:Fs (mF rc rm n z) lo) (hx:Hx B H) (h:H[rm]? =ao (.list (mrk (2*z+1) λp=>mkd n z cs p || (decide (u<=p) && decide (p<u+t))))):M2 B rc rm n z cs u x lo H
theorem aJp{rc z:Nat}(i:B[rm]? =none){a:aq Op}{x:Int}(d:x<e)(c:e<=2*z+1)(j:z<1000)(I:M2 B rc rm n z a u x lo H)(f:GoK (M2 B rc rm n z a u (x+1)) Q K):aN "place" (.int x) lo H λlo1 H1=>mIn lo1 H1 K:=by
 cases I with
 | @mk t g F b h=>
 have G:=F.cons "place" (nv (u+t))
 subst g
 refine aJ (jI (cB (uZ (.n (G _ _ ⋯)) (.n (G _ (nv (u+t)) ⋯)) h (by exact rwL dL (Y197 c d)) (by exact rwL dL (Y180 j)) (aS (f.nx (.mk Y196 (G.re _ ⋯) (b.set i) ((aK h _).trans (cu (λv=>ao (MO.list v)) (map_set (λp k=>?_) _ ?_)))))))))
 ·by_cases q:p=u+t
  ·rw[cj q,q]
  ·rw[cc q]
   show V.bool (_ || (_ && decide (p<u+(t+1))))=V.bool (_ || (_ && decide (p<u+t)))
   rw[(fk.mpr ⟨λz=>zzM2 0x125aa9001f6800007da80a4007da00007a2aa40a01107 [p,u,t] ⋯ q z,λz=>Y194 z⟩)]
 ·show V.bool (_ || (decide (u<=u+t) && decide (u+t<u+(t+1))))=_
  rw[(bp Y193),(bp (zzM0 0x41f69028001f69a00000 [u,t] ⋯)),Bool.and_self,Bool.or_true]
theorem aJq{rc z:Nat}{l:aq Op}(N:B[rm]? =none)(R:B[rc]? =ao (.list (l.map Op.v)))(s:z<1000)(n0:0<=n)(O:n<1000)(bd:∀ o∈l,0<=o.i1/\o.i1<=o.i2/\o.i2<=z){a:aq V}(I:M1 B rc rm n z l (v::a) lo H)(g:GoK (M1 B rc rm n z l a) Q K):tOp v lo H λlo1 H1=>mBody (C:=C) lo1 H1 K:=by
 cases I with
 | @mk done q j r F u h=>
 cases q with
 |nil=>cases j
 |cons o q=>
 cases j
 have b:=bd o (r▸jx _ ce)
 refine aDq ?_
 have G:=F.op o
 generalize loO o lo=lo1 at G
 refine aJ (zS (aDp (o:=o) (G _ _ ⋯) ?_))
 have e:(done++[o])++q=l:=by rw[cz];exact r
 cases m:o.tag.isEq with
 |true=>
  refine bC (aS (g.nx (.mk rfl e (G.re _ ⋯) u ?_)))
  rw[bT,show chg [o]= [] from cX m [],c6];exact h
 |false=>
  obtain⟨A,d⟩:∃ A:Nat,max 0 (2*(o.i1-n))=A:=⟨(max 0 (2*(o.i1-n))).toNat,(zzI0 0x115108452452421149084228a29a010be03d084129a010be03d083 [o.i1,n] ⋯)⟩
  obtain⟨E,c⟩:∃ E:Nat,min (2*(z:Int)) (2*(o.i2+n))+1=E:=⟨(min (2*(z:Int)) (2*(o.i2+n))+1).toNat,Y190 n0 b⟩
  have L:Evv (aI mU (esC (eK (.int 0)) (esC (aA d3 (eK (.int 2)) (aA cP (eN "i1") (eN "n"))) esN))) lo1 H (.int A):=λQ q=>
   b6 (aO (cB (aO (Evv.bin .k (.bin (.n (G _ (.int o.i1) ⋯)) (.n (G _ (.int n) ⋯)) aDr) (jQ (by decide)) _ (bL (max_e (by exact rwL d q)))))))
  have M:Evv (aA aP (aI qW (esC (aA d3 (eK (.int 2)) (eN "size")) (esC (aA d3 (eK (.int 2)) (aA aP (eN "i2") (eN "n"))) esN))) (eK (.int 1))) lo1 H (.int E):=by
   exact .bin (λQ q=>(b6 (aO (Evv.bin .k (.n (G _ (.int z) ⋯)) (jQ (by decide)) _ (aO (Evv.bin .k (.bin (.n (G _ (.int o.i2) ⋯)) (.n (G _ (.int n) ⋯)) kB) (jQ (by decide)) _ (bL (kch ⋯ q)))))))) .k (by rw[kB,c])
  refine bH (aJ (gU (aF2 (Y189 n0 b d c) (Y188 s c) L M ⟨_,oS (M2 B rc rm n z (chg done) A) (λ{D P} J=>?_) (λxe J g=>aJp N xe (Y187 c) s J g) (E-A) A (Y186 n0 b d c) (.mk (t:=0) rfl (G.re _ ⋯) u ?_)⟩)))
  ·cases J with
   | @mk t w y i x=>
   refine aS (aS (g.nx (.mk rfl e y i (rwL x (cu (λf=>ao (MO.list (mrk (2*z+1) f))) (funext λp=>?_))))))
   rw[bT,show chg [o]= [o] from iN m []]
   delta mkd
   rw[List.any_append,vL,List.any_nil,Bool.or_false]
   refine cu (_ || ·) (congr (cu and (fk.mpr ⟨λz=>Y185 d z,λz=>Y184 d z⟩)) (fk.mpr ?_))
   ·exact⟨λz=>Y183 c w z,λz=>Y182 c w z⟩
  ·refine rwL h (cu (λf=>ao (MO.list (mrk (2*z+1) f))) (funext λp=>?_))
   have:(decide (A<=p) && decide (p<A+0))=aL:=by
    cases q:decide (p<A+0) with
    |true=>rw[bw (zzM1 0x168a2900403da4007da00007 [p,A] ⋯ (cn q))];rfl
    |false=>rw[Bool.and_false]
   rw[this,Bool.or_false]
theorem aE5{rc z:Nat}{l:aq Op}(g:H[rc]? =ao (.list (l.map Op.v)))(m:z<1000)(n0:0<=n)(w:n<1000)(bd:∀ o∈l,0<=o.i1/\o.i1<=o.i2/\o.i2<=z)(k:∀ {H' r},Hx H H'->H'[r]? =ao (.list (mrk (2*z+1) (mkd n z (chg l))))->H[r]? =none->R (.ref r) H'):j9 X [.ref rc,.int n,.int z] H R:=by
 refine⟨rfl,?_⟩
 have F:Fs [("size",.int z),("n",.int n),("codes",.ref rc)] (loB ["codes","n","size"] [.ref rc,.int n,.int z] lo0):=((Fs.cons (l:=[]) nofun "codes" (.ref rc)).cons "n" (.int n)).cons "size" (.int z)
 show jY X (loB ["codes","n","size"] [.ref rc,.int n,.int z] lo0) H (jJ R)
 revert F
 generalize loB ["codes","n","size"] [.ref rc,.int n,.int z] lo0=lo
 refine λF=>(aJ (cC ((by
  intro a x E f Q N v i c j k
  refine f7 nv (λy=>[v]) (λy=>s7) (List.range N) (λq=>aF3 ⟨Y176,Y175 c⟩ i (by rw[fo];exact q)) (by rw[<-lU];exact iH _ _) trivial (by rw[(jX (λy=>v) _),bq,hB];exact Y198 c) (λz y=>zW (aH H) λy y y q=>j (q ‹_› ‹_›)) λx h=>k x (by exact rwR (jX (λy=>v) _) h):∀{a:aq Str}{x:Str}{E f:EF}{Q:EK}{N:Nat}{v:V}(i:Evv E lo H (.int (N:Nat)))(c:N<100000)(j:∀ {b:Lo}{H1:MH}{Q:EK},Q v H1->f b H1 Q)(k:∀ {H'},Hx H H'->H'[H.length]? =ao (.list ((List.range N).map λy=>v))->Q (.ref H.length) H'),bJ (d8 C) a (iR (aI b7 (esC E esN))) (aN x) (tK be) (aV f) lo H Q) (Evv.bin (H:=H) (Evv.bin (.k (v:=.int 2)) (.n (x:="size") (F _ (.int z) ⋯)) (jQ (by decide))) (.k (v:=.int 1)) kB) (Y180 m) (λq=>q) (λ{H1} p t=>aS (aJ ?_)))))
 have F:=F.cons "marks" (.ref H.length)
 generalize upd lo "marks" (.ref H.length)=b at F
 refine gU (wB (λq=>aR (F _ (.ref rc) ⋯) q) (aG (p _ _ g)) ⟨_,dJ (M1 H rc H.length n z l) (λI=>?_) (λI=>?_) (λI u=>aJq (aH H) g m n0 w bd I u) _ 0 rfl (.mk (done:=[]) rfl rfl (F.re _ ⋯) p t)⟩)
 ·cases I with
  |mk s d F e h=>exact aG (e _ _ g)
 ·cases I with
  | @mk done q s d F e h=>
   cases jc.mp s.symm
   rw[c6]at d
   subst d
   exact aS (aJ (jH (aR (F _ (.ref H.length) ⋯) (k e h (aH H)))))
theorem aE0(h:k<N):(mrk N f)[k]? =ao (.bool (f k)):=by
 delta mrk
 rw[ma,List.getElem?_range h];rfl
theorem mAt(c:lo "marks" =ao (.ref rm))(h:H[rm]? =ao (.list (mrk N f)))(d:Evv E lo H (nv k))(b:k<N)(a:N<100000)(q:P (f k) H):tE (aA aQ (eN "marks") E) lo H P:=pE (bE (aR c (d _ (zB h (aE0 b) (by exact rwL dL a) (Lf.mk rfl q)))))
theorem rT_i(c:lo "marks" =ao (.ref rm))(g:lo "k" =ao (nv k))(h:H[rm]? =ao (.list (mrk N f)))(o:k<N)(a:N<100000)(e:∀ {P:cw->MH->Prop},P z H->A lo H P)(i:z=aL->Evv E lo H (nv j)/\j<N)(q:P (f k && (z || !f j)) H):aW (aW (tE (aA aQ (eN "marks") (eN "k"))) (aW (tOr A (tOr (q9 (tE (aA aQ (eN "marks") E))) (tK aL))) (tK be))) (tK be) lo H P:=by
 refine fI (fI (mAt c h (.n g) o a ?_))
 cases b:f k with
 |false=>rw[b]at q;exact bC (bC q)
 |true=>
  rw[b]at q
  refine bH (fI (zK (e ?_)))
  cases z with
  |true=>exact bH (bH (nZ (bH (nZ q))))
  |false=>
   obtain⟨l,m⟩:=i rfl
   refine bC (zK ((mAt c h l m a ?_)))
   cases d:f j with
   |true=>rw[d]at q;exact bC (nZ (bC (bC q)))
   |false=>rw[d]at q;exact bH (bH (nZ (bH (nZ q))))
theorem aA4{α:Type}(g:α->V)(p:α->cw):∀ l:aq α,(l.flatMap λx=>bif p x then [g x] else [])=(l.filter p).map g:=λl=>by
 induction l with
 |nil=>rfl
 |cons x l a=>
  rw[gj,a,qp]
  cases p x<;>rfl
theorem aBo(p:Nat->cw)(A:lo y=ao (.ref r))(h:lst H (.ref r)=ao vs)(v:vs.length<100000)(E:Fs F lo)(D:off F [".0","k"]=be)(j:off F ["k"]=be)(B:∀ {k:Nat}{b:Lo}{H1:MH}{P:cw->MH->Prop},k<vs.length->Fs F b->b "k" =ao (nv k)->Hx H H1->P (p k) H1->T b H1 P)(k:∀ {H'},Hx H H'->H'[H.length]? =ao (.list (((List.range vs.length).filter p).map nv))->Q (.ref H.length) H'):bJ (d8 C) [".0","k"] (iR (eRL y)) (aN "k") T (aV (eN "k")) lo H Q:=by
 have e:=aA4 nv p (List.range vs.length)
 refine (by
  exact λ{c x tgt t l lo Q r vs} out I a h u o d z k=>f7 nv out I (List.range vs.length) (λq=>(by
    intro x r vs lo P a h d q
    refine aR a (aFh h (A258 d) (aEa (Lf.mk rfl ⟨(by
     intro n h
     delta rOk
     rewrite [bp (show(n:Int)<1000000 by exact zzM1 0x15ec3283d07da2810009ec3283d07da00007 [n] ⋯ h),bp (show-1000000<(n:Int) by exact A264)];rfl:∀(n:Nat)(h:n<1000000),rOk 0 n 1=be) _ (A258 d),?_⟩)))
    have e:sZ 0 (vs.length:Int) 1=vs.length:=by
     show((vs.length:Int)-0).toNat=_
     rw[Int.sub_zero,fo]
    exact(rwL e q:P (0,sZ 0 (vs.length:Int) 1,1) H):∀{x:Str}{r:Nat}{vs:aq V}{lo:Lo}{P:Int×Nat×Int->MH->Prop}(a:lo x=ao (.ref r))(h:lst H (.ref r)=ao vs)(d:vs.length<100000)(q:P (0,vs.length,1) H),iR (eRL x) lo H P) a h u q) (by rw[<-lU];exact iH _ _) o d z k:∀{c:aq Str}{x:Str}{tgt:AF}{t:TF}{l:BF}{lo:Lo}{Q:EK}{r:Nat}{vs:aq V}(out:Nat->aq V)(I:Lo->Prop)(a:lo x=ao (.ref r))(h:lst H (.ref r)=ao vs)(u:vs.length<100000)(o:I (hide c lo))(d:((List.range vs.length).flatMap out).length<1000000)(z:∀ k∈List.range vs.length,Put I H H.length (out k) (fF tgt t (l H.length) (nv k)))(k:∀ {H'},Hx H H'->H'[H.length]? =ao (.list ((List.range vs.length).flatMap out))->Q (.ref H.length) H'),bJ (d8 C) c (iR (eRL x)) tgt t l lo H Q) (λk=>bif p k then [nv k] else []) (Fs F) A h v (E.hide D) (by rw[e,bq];exact ec (gM ..) (by exact rwL hB (Y198 v))) (λk G=>⟨λ{b H1 acc P} i a s f g=>?_⟩) (λx h'=>k x (by exact rwR e h'))
 have m:=i.up (w:=nv k) j
 refine B (m0.mp G) m bK a ?_
 cases q:p k with
 |false=>rw[q]at g;exact bC (put0 a s rfl m g)
 |true=>rw[q]at g f;exact bH (aR bK (put1 (aH H) a s f rfl m g))
def pN(p:Nat×Nat):V:=.tup [nv p.1,nv p.2]
theorem zT{L:aq (Nat×Nat)}(h:H[rm]? =ao (.list (mrk N f)))(d:N<100000)(o:begs f N=L.map Prod.fst)(w:ends f N=L.map Prod.snd)(k:∀ {H' r},Hx H H'->H'[r]? =ao (.list (L.map pN))->H[r]? =none->R (.ref r) H'):eY X [.ref rm] H R:=by
 refine⟨rfl,?_⟩
 have F:Fs [("marks",.ref rm)] (loB ["marks"] [.ref rm] lo0):=Fs.cons (l:=[]) nofun "marks" (.ref rm)
 show lG X (loB ["marks"] [.ref rm] lo0) H (jJ R)
 revert F
 generalize loB ["marks"] [.ref rm] lo0=lo
 intro F
 have a:=F "marks" (.ref rm) ⋯
 have A:L.length<1000000:=by
  have:=cu List.length o
  rw[bq]at this
  exact Y205 d this (Nat.le_trans (gM ..) (se hB))
 refine aJ (cC (aBo (λk=>f k && (decide (k=0) || !f (k-1))) a (aG h) (by exact rwL dL d) F ⋯ ⋯ (λ{k b H1 P} c G g x q=>?_) λ{H1} i s=>aS (aJ (cC ?_))))
 ·rw[dL]at c
  refine rT_i (G _ _ ⋯) g (x _ _ h) c d (λ{P} q=>pE (bE (aR g (cB (Lp.mk eqI_e (Lf.mk rfl (rwL (show decide ((k:Int)=0)=decide (k=0) from fk.mpr ⟨λz=>zzM1 0x5240f68040f68a040c7 [k] ⋯ z,λz=>zzM1 0x5240f68a040c0f68047 [k] ⋯ z⟩) q))))))) (λz=>⟨?_,Y100 c⟩) q
  ·have e:=Evv.bin (Evv.n g) (.k (v:=.int 1)) (aDr (H:=H1))
   rw[show ((k:Nat):Int)-1=((k-1:Nat):Int) by exact zzM1 0x292952a44a01f6804407da281010e803da01107 [k] ⋯ (of_decide_eq_false z)]at e
   exact e
 rw[dL,show (List.range N).filter (λk=>f k && (decide (k=0) || !f (k-1)))=L.map Prod.fst from o]at s
 have G:=F.cons "begins" (.ref H.length)
 have a:=G "marks" (.ref rm) ⋯
 generalize upd lo "begins" (.ref H.length)=b at G a
 refine aBo (λk=>f k && (decide (k+1=N) || !f (k+1))) a (aG (i _ _ h)) (by exact rwL dL d) (G.re [("marks",.ref rm)] ⋯) ⋯ ⋯ (λ{k b j P} c G g x q=>?_) λ{j} m u=>aS (aJ (jH ?_))
 ·rw[dL]at c
  have a:=G "marks" (.ref rm) ⋯
  have t:Evv (aA aP (eN "k") (eK (.int 1))) b j (nv (k+1)):=by
   exact (Evv.bin (Evv.n g) (.k (v:=.int 1)) (kB (H:=j)))
  refine rT_i a g ((i.trans x) _ _ h) c d (λ{P} q=>pE (bE (t _ (jU a (aG ((i.trans x) _ _ h)) (by exact rwL dL d) _ (Lp.mk eqI_e (Lf.mk rfl ?_)))))) (λz=>⟨t,?_⟩) q
  ·rw[dL,show decide (((k+1:Nat):Int)=(N:Nat))=decide (k+1=N) from fk.mpr ⟨λz=>zzM1 0x526907da00068a44a01f680040c7 [k,N] ⋯ z,λz=>zzM1 0x5268a44a01f680040e907da00047 [k,N] ⋯ z⟩];exact q
  ·exact zzM2 0x516907d07da00000a2907da000441e907da00007 [k,N] ⋯ c (of_decide_eq_false z)
 rw[dL,show (List.range N).filter (λk=>f k && (decide (k+1=N) || !f (k+1)))=L.map Prod.snd from w]at u
 have G:=G.cons "ends" (.ref H1.length)
 refine aO (aR (G _ (.ref H.length) ⋯) (aO (aR (G _ (.ref H1.length) ⋯) (bL (Lf.mk rfl (Lf.mk (aG (m _ _ s)) (Lf.mk (aG u) ⟨?_,?_,?_⟩)))))))
 ·rw[bq,bq,bq,bq]
 ·rw[bq,bq];exact A
 ·rw[(by
   intro L
   induction L with
   |nil=>rfl
   |cons p L y=>exact cu (pN p::·) y:∀(L:aq (Nat×Nat)),kR ((L.map Prod.fst).map nv) ((L.map Prod.snd).map nv)=L.map pN)]
  exact k ((i.trans m).trans (.app _ _)) (aU _ _) ((i.trans m).fresh)
def iV(l:aq Int):aq V:=l.map V.int
structure LL(H:MH)(rc:Nat)(ps:aq (Nat×aq Int)):Prop where
 h:H[rc]? =ao (.list (ps.map rv))
 d:∀ p∈ps,H[p.1]? =ao (.list (iV p.2))/\rc<p.1
theorem fK(h:H[r]? =ao m):r<H.length:=Nat.lt_of_not_le λq=>by
 cases ((ft q)▸h)
theorem qP(h:H[r]? =none):H.length<=r:=Nat.le_of_not_lt λq=>by
 exact cyM (rwR (cg q) h)
theorem LL.hx{rc:Nat}(D:LL H rc ps)(x:Hx H H'):LL H' rc ps:=⟨x _ _ D.h,λp a=>⟨x _ _ (D.d p a).1,(D.d p a).2⟩⟩
theorem LL.set{rc:Nat}(D:LL H rc ps)(h:H[r]? =ao (.list (iV w)))(n:rc<r):LL (H.set rc (.list ((ps.map rv).set k (.ref r)))) rc (ps.set k (r,w)):=by
 refine⟨(aK D.h _).trans (by rw[List.map_set];rfl),λp a=>?_⟩
 rcases List.mem_or_eq_of_mem_set a with a |e
 ·have:=D.d p a
  exact⟨aE this.1 (gq this.2),this.2⟩
 ·exact rwL e ⟨aE h (gq n),n⟩
def qU(a b:aq Int)(i:Int)(cs:aq Op)(p:Nat):aq Int:=bif (p%2==1) && decide (i<=((p/2:Nat):Int)) then [] else cel a b cs p
theorem qT:qU a b i c (2*k)=cel a b c (2*k):=by
 delta qU
 rw[show 2*k%2=0 from ev2 k];rfl
theorem qS:qU a b i c (2*k+1)=bif decide (i<=(k:Int)) then [] else cel a b c (2*k+1):=by
 delta qU
 rw[show (2*k+1)%2=1 from od2 k,show (2*k+1)/2=k by exact Y36 zzD zzE];rfl
theorem mR{d:aq Op}{k:Nat}(h:∀ c∈d,c.i2<=k)(p:Nat):qU a b ((k+1:Nat):Int) d p=if p=2*k+1 then sl a k (k+1) else qU a b (k:Int) d p:=by
 obtain⟨t,rfl |rfl⟩:=par p
 ·rw[cc (pne _ _),qT,qT]
 ·rw[qS,qS]
  by_cases q:t=k
  ·refine rwL q ?_
   rw[cj rfl,bw (zzM0 0x1a28a04a01f68004084 [k] ⋯),ik]
   exact lL λc e q=>by exact Y238 q (h c e)
  ·rw[cc (zzM1 0x132e807da42f8007da02f80044a29a01107 [t,k] ⋯ q),show decide (((k+1:Nat):Int)<=t)=decide ((k:Int)<=t) from fk.mpr ⟨λz=>zzM1 0x5a29128a040a8a44a01f68004087 [k,t] ⋯ z,λz=>zzM2 0xa9a2812807da40102a28128a44087a29a01107 [t,k] ⋯ q z⟩]
theorem uU{i:Int}{u v:Nat}(m:i=u)(k:(u:Int)<=v)(h:∀ c∈d,c.i1<i)(p:Nat):qU a b v (d++[chO g i j v f]) p=if p=2*u then sl b j f else qU a b i d p:=by
 subst m
 obtain⟨t,rfl |rfl⟩:=par p
 ·rw[qT,qT,f9,List.flatMap_append,<-f9 (a:=a)]
  show _++((bif decide ((u:Int)=t) then sl b j f else [])++[])=_
  by_cases q:t=u
  ·refine rwL q ?_
   rw[cj rfl,bp rfl,f8 λc l q=>by exact Y234 q (h c l),c6]
   rfl
  ·exact rwL (cc (zzM1 0x132e8a42fa80be044a29a01107 [t,u] ⋯ q)) (rwL (bw (zzM1 0x2a68a28128a440c4a29a01107 [t,u] ⋯ q)) (c6 _))
 ·rw[cc (λe=>pne _ _ e.symm),qS,qS,k4,k4,List.any_append]
  show(bif _ then _ else bif _ || ((decide ((u:Int)<=t) && decide ((t:Int)<v)) || false) then _ else _)=_
  by_cases q:(u:Int)<=t
  ·rw[bp q,f4]
   by_cases r:(v:Int)<=t
   ·rw[bp r];rfl
   ·rw[bw r,bp (zzM1 0x5a28101f68a44002a28a44a28102107 [v,t] ⋯ r:(t:Int)<v),Bool.and_self,Bool.true_or,Bool.or_true];rfl
  ·rw[bw q,Bool.false_and,Bool.or_false,Bool.or_false,bw (zzM2 0x568a2a128a44084a28a84a28102107a29128a04087 [u,v,t] ⋯ k q: ¬(v:Int)<=t)]
def cF(ro ra rb rc:Nat):aq (Str×V):=[("codes",.ref ro),("base",.ref ra),("side",.ref rb),("cells",.ref rc)]
inductive D2(B:MH)(ro ra rb rc:Nat)(a b:aq Int)(cs:aq Op)(u:Nat)(x:Int)(lo:Lo)(H:MH):Prop
 |mk {ps:aq (Nat×aq Int)}{t:Nat} (ex:x=(t:Nat)) (ut:u<=t) (F:Fs (cF ro ra rb rc) lo) (hx:Hx B H) (D:LL H rc ps) (e:ps.map Prod.snd=(List.range (2*a.length+1)).map (qU a b t cs)):D2 B ro ra rb rc a b cs u x lo H
inductive D1(B:MH)(ro ra rb rc:Nat)(a b:aq Int)(l:aq Op)(rest:aq V)(lo:Lo)(H:MH):Prop
 |mk {done q:aq Op}{ps:aq (Nat×aq Int)}{u:Nat}{i j:Int}{f:bn cw} (er:rest=q.map Op.v) (el:done++q=l) (ei:i=(u:Nat)) (j0:0<=j) (F:Fs (cF ro ra rb rc) lo) (hx:Hx B H) (D:LL H rc ps) (e:ps.map Prod.snd=(List.range (2*a.length+1)).map (qU a b i (chg done)))
  (c:Cod a b f i j q) (lt:f≠ao aL->∀ c∈chg done,c.i1<i) (le:∀ c∈chg done,c.i1<=c.i2/\c.i2<=i):D1 B ro ra rb rc a b l rest lo H
theorem yA{ps:aq (Nat×aq Int)}(e:ps.map Prod.snd=(List.range N).map f):ps.length=N:=by
 have:=cu List.length e
 rwa [bq,bq,hB]at this
theorem aKk{rc:Nat}(p:B[rc]? =none)(q:LI B ra a)(al:a.length<1000){g:aq Op}{u:Nat}(s:v<=a.length)(i:∀ c∈g,c.i2<=u){x:Int}(o:x<v)(I:D2 B ro ra rb rc a b g u x lo H)(r:GoK (D2 B ro ra rb rc a b g u (x+1)) Q K):aN "k" (.int x) lo H λlo1 H1=>cIn1 lo1 H1 K:=by
 cases I with
 | @mk ps t y f F m D e=>
 subst y
 have G:=F.cons "k" (nv t)
 show cIn1 (upd lo "k" (nv t)) H K
 revert G
 generalize upd lo "k" (nv t)=lo1
 intro G
 have j:=Y229 s o
 refine aJ (jI (eL1_i (bE (aR (G _ (.ref ra) ⋯) (aR (G _ (nv t) ⋯) (Lp.mk (fV (m.li q) (eO t) (Y228 j) (Y216 al)) (Lp.mk (by exact cj (show 1<1000000 by decide)) ?_)))))))
 have l:Hx H (H++[MO.list [.int (av a t)]]):=.app _ _
 refine uZ (.n (G _ (.ref rc) ⋯)) ?_ (D.hx l).h (by rw[bq];exact Y227 (yA e) j) (by rw[bq];exact Y212 al (yA e)) (aS (r.nx (.mk Y28 (Y89 f) (G.re _ ⋯) ((m.trans l).set p) ((D.hx l).set (w:=[av a t]) (aU H (MO.list [.int (av a t)])) (fK D.h)) ?_)))
 ·exact (rwR (show 2*((t:Nat):Int)+1=((2*t+1:Nat):Int) by exact (zzM0 0x16807da02f80101f68a040be003 [t] ⋯)) (Evv.bin (H:=H++[MO.list [.int (av a t)]]) (Evv.bin (.k (v:=.int 2)) (.n (x:="k") (G _ (nv t) ⋯)) (jQ (by decide))) (.k (v:=.int 1)) kB))
 ·exact rwL List.map_set (rwL e (map_set (λp z=>by rw[mR (λc d=>by exact Y225 f (i c d)),mR (λc d=>by exact Y225 f (i c d)),cj rfl]) _ (by rw[mR (λc d=>by exact Y225 f (i c d)),cj rfl,(by
   intro k h
   show(a.drop k).take (k+1-k)= [a.getD k 0]
   rw[Nat.add_sub_cancel_left,List.drop_eq_getElem_cons h,c4,cg h];rfl:∀{k:Nat}(h:k<a.length),sl a k (k+1)= [av a k]) j])))
theorem aKl{rc:Nat}(W:B[rc]? =none)(ho:B[ro]? =ao (.list (l.map Op.v)))(ha:LI B ra a)(hs:LI B rb b)(al:a.length<1000)(bl:b.length<1000)(I:D1 B ro ra rb rc a b l (v::r) lo H)(E:GoK (D1 B ro ra rb rc a b l r) Q K):tOp v lo H λlo1 H1=>cBody (C:=C) lo1 H1 K:=by
 cases I with
 | @mk done q ps u i j f Z el N P F T D e c A L=>
 cases q with
 |nil=>cases Z
 |cons o q=>
 cases Z
 have z:(done++[o])++q=l:=by rw[cz];exact el
 refine aDq ?_
 have G:=F.op o
 generalize loO o lo=lo1 at G
 refine aJ (zS (aDp (o:=o) (G _ _ ⋯) ?_))
 cases c.inv with
 | @eq k _ U p m h=>
  obtain⟨w,S⟩:∃ w:Nat,k=w:=⟨k.toNat,zzI1 0x295128a28104a03a01f40f40087 [k] ⋯ p⟩
  subst N S
  have bd:=h.cq.le
  refine bH (aJ (gU (aF2 Y193 (Y223 al bd) (.n (G _ (.int u) ⋯)) (.n ?_) ⟨_,oS (D2 B ro ra rb rc a b (chg done) u) (λ{ad H5} J=>?_) (λxe J E=>aKk W ha al (Y222 bd) (λc d=>(L c d).2) xe J E) (u+w-u) u (zzM0 0x2a4a8a68004a28a68001128a04003 [u,w] ⋯) (.mk rfl (c5 _) (G.re _ ⋯) T D e)⟩)))
  ·rw[(G "i2" (.int ((u:Int)+w)) ⋯)];rfl
  ·cases J with
   | @mk ae t ex ut F5 R D5 e5=>
   have:=Y220 ex
   subst this
   refine aS (aS (E.nx (.mk rfl z Y20 (Y19 P) F5 R D5 (by rw[bT,show chg [eqO (u:Int) j w]= [] from cX rfl [],c6];exact e5) h (λ_ c d=>?_) λc d=>?_)))
   ·rw[bT,show chg [eqO (u:Int) j w]= [] from cX rfl [],c6]at d
    exact Y219 p (L c d)
   ·rw[bT,show chg [eqO (u:Int) j w]= [] from cX rfl [],c6]at d
    exact Y218 (L c d)
 | @ch X s g _ U O y Y h=>
  obtain⟨w,S⟩:∃ w:Nat,X=w:=⟨X.toNat,Y217 N y⟩
  subst N S
  refine rwL O ?_
  have M:Hx H (H++[.list (pk (b.map V.int) (ao j) (ao s) none)]):=.app _ _
  refine bC (aJ (jI (eP (aR (G _ (.ref rb) ⋯) (aR (G _ (.int j) ⋯) (aR (G _ (.int s) ⋯) (cB (Lf.mk rfl (Lf.mk rfl (Lf.mk rfl (gK (T.li hs) (by rw[bq];exact Y216 bl) (by decide) ?_)))))))))))
  rw[(m9 (zzI1 0x16803d0a803d087 [j] ⋯ P) Y (Y214 h.cq.le))]at M ⊢
  refine uZ (.n (G _ (.ref rc) ⋯)) ?_ (D.hx M).h (by rw[bq];exact Y213 (yA e) y h.cq.le) (by rw[bq];exact Y212 al (yA e)) (aS (aS (E.nx (.mk rfl z rfl (zzI2 0x56903d0a9a021e803d087 [j,s] ⋯ P Y) (G.re _ ⋯) ((T.trans M).set W) ((D.hx M).set (aU H (MO.list ((sl b j s).map V.int))) (fK D.h)) ?_ h (λq=>ca rfl q) λc d=>?_))))
  ·exact (rwR (show 2*((u:Nat):Int)=((2*u:Nat):Int) by exact (zzM0 0x168a02f84a28102f83 [u] ⋯)) (Evv.bin (H:=H++[MO.list ((sl b j s).map V.int)]) (.k (v:=.int 2)) (.n (x:="i1") (G _ (nv u) ⋯)) (jQ (by decide))))
  ·have A:=A U
   rw[List.map_set,e,bT,show chg [chO g (u:Int) j w s]= [chO g (u:Int) j w s] from eX O []]
   exact map_set (λp hp=>by rw[uU rfl y A,uU rfl y A,cj rfl]) _ (by rw[uU rfl y A,cj rfl])
  ·rw[bT,show chg [chO g (u:Int) j w s]= [chO g (u:Int) j w s] from eX O []]at d
   rcases gb.mp d with d |d
   ·exact Y209 y (L c d)
   ·exact rwL (dc.mp d) ⟨y,Int.le_refl _⟩
theorem aHk(S:H[ro]? =ao (.list (l.map Op.v)))(Y:LI H ra a)(hb:LI H rb b)(al:a.length<1000)(bl:b.length<1000)(c:Cod a b none 0 0 l)(k:∀ {H' r ps},Hx H H'->LL H' r ps->ps.map Prod.snd=(List.range (2*a.length+1)).map (cel a b (chg l))->H[r]? =none->R (.ref r) H'):kA X [.ref ro,.ref ra,.ref rb] H R:=by
 refine⟨rfl,?_⟩
 have F:Fs [("side",.ref rb),("base",.ref ra),("codes",.ref ro)] (loB ["codes","base","side"] [.ref ro,.ref ra,.ref rb] lo0):=((Fs.cons (l:=[]) nofun "codes" (.ref ro)).cons "base" (.ref ra)).cons "side" (.ref rb)
 show j3 X (loB ["codes","base","side"] [.ref ro,.ref ra,.ref rb] lo0) H (jJ R)
 revert F
 generalize loB ["codes","base","side"] [.ref ro,.ref ra,.ref rb] lo0=lo
 intro F
 have NN:Evv (aA aP (aA d3 (eK (.int 2)) (aI bQ (esC (eN "base") esN))) (eK (.int 1))) lo H (.int (2*a.length+1:Nat)):=by
  have e:=Evv.bin (Evv.bin (.k (v:=.int 2)) (jU (F "base" (.ref ra) ⋯) Y (by rw[bq];exact Y208 al)) (jQ (by decide))) (.k (v:=.int 1)) kB
  rw[bq]at e
  exact e
 refine aJ (cC ((by
  intro α U K y T tgt t E Q it ob f c I l Z s hi i0 hs k
  refine s ⟨_,pK f (NIv ob c I H H.length l) (λJ=>?_) (λJ=>?_) (λ{x l' m H1 P} J W=>?_) l hi (.mk i0 (.app _ _) (aU _ _) (λ_ h=>ca h cx) rfl (λx g=>g) λ_ h=>ca h cx)⟩
  ·cases J with
   |mk i g h M t N s=>exact g
  ·cases J with
   |mk i g h M t N s=>exact k g h (λd hd'=>(M d hd').1) (by exact rwR t ((c6 _).symm)) s
  ·cases J with
   | @mk done i g h M t N s=>
    refine hs x (N x ce) i g λ{o A r} i' L h2 G=>Lf.mk (c7 (L _ _ h)) ⟨?_,?_⟩
    ·rw[bq]
     have:=cu List.length t
     rw[bx,bq,bq,bq]at this
     exact zzM2 0x95ec3283d07da40028aa90011c387583d07da00007 [l.length,done.length,(x :: l').length] ⋯ Z this
    ·refine W (.mk i' ((g.trans L).set (aH H)) (rwL dv (aK (L _ _ h) _)) (hd_set M L h2 (λq=>aM ((q▸G).symm.trans h))) ?_ (λq hq=>N q (b4 _ hq)) λd hd'=>(gb.mp hd').elim (s d) λhd'=>by exact rwL (dc.mp hd') (g.no G))
     ·rw[dv,cz];exact t:∀{α U:Type}{K:ItK C}{y:aq Str}{T:IF K}{tgt:AF}{t:TF}{E:EF}{Q:EK}{it:K.σ}(ob:U->aq V)(f:α->V)(c:α->U)(I:Lo->Prop)(l:aq α)(Z:l.length<100000)(s:∀ {P:K.σ->MH->Prop},P it H->T lo H P)(hi:Its K H it (l.map f))(i0:I (hide y lo))(hs:∀ x∈l,∀ {m:Lo}{H1:MH}{P:LK},I m->Hx H H1->(∀ {o A r},I o->Hx H1 A->A[r]? =ao (.list (ob (c x)))->H1[r]? =none->Lf (A[H.length]?.bind MO.own) λvs=>vs.length<1000000/\P o (A.set H.length (.list (vs++[.ref r]))))->fF tgt t (aV E H.length) (f x) m H1 P)(k:∀ {H' ps},Hx H H'->H'[H.length]? =ao (.list (ps.map rv))->HB ob H' ps->ps.map Prod.snd=l.map c->(∀ p∈ps,H[p.1]? =none)->Q (.ref H.length) H'),bJ K y T tgt t (aV E) lo H Q) iV nv (λ_=>([]:aq Int)) (λ_=>s7) (List.range (2*a.length+1)) (by exact rwL hB (Y180 al)) (λq=>aF3 ⟨Y207,zzM1 0xb7b0ca0f41f6807da02f8010009fa3d07da00007 [a.length] ⋯ al⟩ NN (by rw[fo];exact q)) (by rw[<-lU];exact iH _ _) trivial (λp n {m H1 P} i x W=>(lP (iF (W trivial (.app _ _) (aU _ _) (aH _))))) (λ{H1 ps} x1 h1 B e1 G=>aS (aJ ?_))))
 have F:=F.cons "cells" (.ref H.length)
 generalize upd lo "cells" (.ref H.length)=m at F
 have D:LL H1 H.length ps:=⟨h1,λp n=>⟨B p n,Nat.lt_of_le_of_ne (qP (G p n)) λq=>by
  have hz:=B p n
  have z:p.2= []:=by
   obtain⟨_,_,w⟩:=gw.mp (rwR e1 (e9 (f:=Prod.snd) n))
   exact w.symm
  rw[<-q,h1,z]at hz
  cases ps with
  |nil=>exact ca n cx
  |cons=>cases hz⟩⟩
 refine gU (wB (λq=>aR (F _ (.ref ro) ⋯) q) (aG (x1 _ _ S)) ⟨_,dJ (D1 H ro ra rb H.length a b l) (λI=>?_) (λI=>?_) (λI go=>aKl (aH H) S Y hb al bl I go) _ 0 rfl (.mk (done:=[]) (i:=0) rfl rfl rfl (Int.le_refl 0) (F.re _ ⋯) x1 D ?_ c (λ_ _ h=>ca h cx) λ_ h=>ca h cx)⟩)
 ·cases I with
  |mk er O ei j0 F g=>exact aG (g _ _ S)
 ·cases I with
  | @mk done q ps u i j f er O ei j0 F g D e c2 lt le=>
   cases jc.mp er.symm
   rw[c6]at O
   subst O
   refine aS (aJ (jH (aR (F _ (.ref H.length) ⋯) (k g D (e.trans (lI λp n=>?_)) (aH H)))))
   have:=m0.mp n
   delta qU
   refine rwL (c2.end rfl).1 ?_
   cases q:(p%2==1) with
   |false=>rfl
   |true=>rw[bw (by have z1:=pz q;omega)];rfl
 ·refine rwL e1 (lI λp n=>?_)
  obtain⟨k,rfl |rfl⟩:=par p
  ·rw[qT,f9];rfl
  ·rw[qS,bp Y13];rfl
def same(c o:Op):cw:=PyData.eqv (dO c) (dO o)
theorem xL(h:PyData.eqv (.str x) (.str y)=aL):PyData.eqv (.tuple (.str x::xs)) (.tuple (.str y::ys))=aL:=by
 show(PyData.eqv (.str x) (.str y) && PyData.eqvAll xs ys)=aL
 rw[h];rfl
theorem zR:OEq same where
 r:=λo=>PySem.SeqAt.eqv_refl _ (PySem.SeqAt.canLay_of_shaped (by unfold PySem.SeqAt.shaped;rw[(aBm o).1];rfl))
 i:=λc o h=>by
  show(_ && ((c.i1==o.i1) && _))=aL
  rw[m2.mpr h,Bool.false_and,Bool.and_false]
 t:=λc o a b=>by
  obtain⟨t,_,_,_,_⟩:=c
  obtain⟨u,_,_,_,_⟩:=o
  cases u with
  |eq=>
   cases t with
   |eq=>cases a
   |rep=>exact xL ⋯
   |del=>exact xL ⋯
   |ins=>exact xL ⋯
  |_=>cases b
theorem in_op{rc n:Nat}{a:aq Op}(h:lst H (.ref rc)=ao (a.map Op.v)):oIn id o.v (.ref rc) H=ao (.bool (inO same a o),H):=by
 have c:rd H eqD o.v=ao (dO o):=rd_op 7 o
 have d:rd H eqD (.ref rc)=ao (.list (a.map dO)):=aEd 6 h
 have b:inB H o.v (.ref rc)=ao (inO same a o):=by
  delta inB
  rw[c,d]
  show(if PyData.canLayAll0 (a.map dO) && (dO o).canLay0 && decide ((dO o).depth<50) then ao ((a.map dO).any λy=>PyData.eqv y (dO o)) else none)=_
  refine rwL ((jP dO a λx q=>aBm x).1) (rwL ((aBm o).1) (rwL (show decide ((dO o).depth<50)=be from by kernel_rfl) ?_))
  rw[List.any_map];rfl
 delta oIn
 rw[b];rfl
theorem w5{α:Type}{b:aq Str}{R:MH->Prop}(f:α->V)(p:α->cw)(l:aq α)(h:lst H (.ref r)=ao (l.map f))(u:l.length<100000)(y:Fs F (hide b lo))(g:off F [x]=be)(v:∀ {z:α}{a:Lo}{H1:MH}{P:cw->MH->Prop},z∈l->Fs F a->a x=ao (f z)->Hx H H1->P (p z) H1->T a H1 P)(k:∀ {H'},Hx H H'->H'[H.length]? =ao (.list ((l.filter p).map f))->R H'):∃ n,lS (bA C) (aN x) T (aV (eN x) H.length) n (r,0) (hide b lo) (H++[.list []]) λA j=>R j:=by
 have e:=aA4 f p l
 refine oZ (Q:=λA j=>R j) f (λz=>bif p z then [f z] else []) (Fs F) l (f6 h _ 0 rfl) y (by rw[e,bq];exact ec (gM ..) (Y198 u)) (λz t=>⟨λ{a H1 acc P} i m s c d=>?_⟩) λ{H'} x h'=>k x (by exact rwR e h')
 have o:=i.up (w:=f z) g
 refine v t o bK m ?_
 cases q:p z with
 |false=>rw[q]at d;exact bC (put0 m s rfl o d)
 |true=>rw[q]at d c;exact bH (aR bK (put1 (aH H) m s c rfl o d))
theorem le_e:oLe (.int x) (.int y) H=ao (.bool (decide (x<=y)),H):=rfl
theorem tch_i{a b:V}(f:Evv d lo H a)(g:Evv f1 lo H b)(h:Evv f2 lo H c)(i:g1 a b H=ao (.bool s,H))(j:e b c H=ao (.bool t,H))(q:P (s && t) H):tCh g1 e d f1 f2 lo H P:=by
 refine f _ (g _ (Lp.mk i (Lf.mk rfl ?_)))
 cases s with
 |false=>exact bC q
 |true=>exact bH (h _ (Lp.mk j (Lf.mk rfl q)))
theorem chT_i{o:Op}{q:Nat×Nat}(a:lo "code" =ao o.v)(b:lo "left" =ao (nv q.1))(c:lo "right" =ao (nv q.2))(k:P (!o.tag.isEq && (decide ((q.1:Int)<=2*o.i1) && decide (2*o.i1<=(q.2:Int)))) H):chTe lo H P:=by
 refine fI (fI (pE (neE_i a (Lf.mk rfl ?_))))
 cases z: !o.tag.isEq with
 |false=>rw[z]at k;exact bC (bC k)
 |true=>
  rw[z]at k
  refine bH (fI (tch_i (.n b) (.bin .k (.bin (.n a) .k rfl) (jQ (by decide))) (.n c) le_e le_e ?_))
  rw[Bool.true_and]at k
  revert k
  generalize (decide ((q.1:Int)<=2*o.i1) && decide (2*o.i1<=(q.2:Int)))=w
  intro k
  cases w with
  |false=>exact bC (bC k)
  |true=>exact bH (nZ (bH (nZ k)))
theorem mxl{a b:Nat}(h:a<=n)(c:b<=n):max a b<=n:=Nat.max_le.mpr ⟨h,c⟩
def reD(r:Re):iq:=.tuple [.list (r.old.map dI),.int r.len,.list (r.cs.map dO)]
theorem re_rd{rc:Nat}(a:lst H (.ref ro)=ao (r.old.map V.int))(b:lst H (.ref rc)=ao (r.cs.map Op.v)):rd H 3 (.tup [.ref ro,.int r.len,.ref rc])=ao (reD r):=by
 show(([V.ref ro,.int r.len,.ref rc].mapM (rd H 2)).map PyData.tuple)=_
 rw[fe,fe,fe,iD 1 a,lA,aEd 0 b];rfl
theorem re_ok(r:Re):(reD r).canLay0=be/\(reD r).depth<=3:=by
 have a:=jP dI r.old λx q=>⟨rfl,c5 _⟩
 have b:=jP dO r.cs λx q=>⟨(aBm x).1,c5 1⟩
 constructor
 ·show(PyData.canLayAll0 (r.old.map dI) && (be && (PyData.canLayAll0 (r.cs.map dO) && be)))=be
  rw[a.1,b.1];rfl
 ·exact(eH (mxl (Nat.le_trans (eH a.2) (by decide)) (mxl (by decide) (mxl (eH b.2) (by decide)))):max (PyData.depthAll (r.old.map dI)+1) (max 0 (max (PyData.depthAll (r.cs.map dO)+1) 0))+1<=3)
theorem s8:Off r (H.set r m)=Off r H:=qw ..
theorem Hx.off(x:Hx H H')(h:∃ m,H[r]? =ao m):Hx (Off r H) (Off r H'):=λi m e=>by
 by_cases q:r=i
 ·subst q
  obtain⟨a,h⟩:=h
  rw[show (Off r H)[r]? =ao .eset from aK h _]at e
  exact(aK (x _ _ h) _).trans e
 ·rw[show (Off r H)[i]? =H[i]? from ez q]at e
  exact(ez q).trans (x _ _ e)
theorem iE(h:H[i]? =ao m)(n:r≠i):(Off r H)[i]? =ao m:=(ez n).trans h
def Ag(r:Nat)(H G:MH):Prop:=∀ i m,r<i->H[i]? =ao m->G[i]? =ao m
structure Gr(H:MH)(n r:Nat)(vs:aq V)(ds:aq iq):Prop where
 h:H[r]? =ao (.list vs)
 d:∀ G,Ag r H G->vs.mapM (rd G n)=ao ds
theorem Gr.hx{b:aq iq}(G:Gr H n r vs b)(x:Hx H H'):Gr H' n r vs b:=⟨x _ _ G.h,λg a=>G.d g λi m q h=>a i m q (x _ _ h)⟩
theorem Gr.put{d:iq}(G:Gr H n r vs c)(e:∀ g,Ag r H g->rd g n v=ao d):Gr (H.set r (.list (vs++[v]))) n r (vs++[v]) (c++[d]):=⟨aK G.h _,λg a=>by
 have b:=λi m q h=>a i m q (aE h (gq q))
 exact (by
  rw[List.mapM_append,(G.d g b)]
  rw[fe,(e g b)];rfl)⟩
theorem Gr.new(n:Nat):Gr (H++[.list []]) n H.length [] []:=⟨aU _ _,λq q=>rfl⟩
theorem Gr.len{a:aq iq}(G:Gr H n r vs a):vs.length=a.length:=by
 have:∀ {vs:aq V}{a:aq iq},vs.mapM (rd H n)=ao a->vs.length=a.length:=λ{vs}=>by
  induction vs with
  |nil=>intro a e;refine cxS e ?_;rfl
  |cons v vs c=>
   intro a e
   rw[fe]at e
   refine xEA (bt.mp e) λd f e=>?_
   refine xEA (bt.mp e) λes b e=>?_
   exact cxS e (cu (·+1) (c b))
 exact this (G.d H λq q q h=>h)
theorem Gr.rd{b:aq iq}(G:Gr H n r vs b)(a:∀ i m,r<=i->H[i]? =ao m->g[i]? =ao m):Mine.Internal.rd g (n+1) (.ref r)=ao (.list b):=by
 show(lst g (.ref r)).bind _=_
 rw[aG (a r _ (c5 _) G.h)]
 show(vs.mapM (Mine.Internal.rd g n)).map PyData.list=_
 rw[G.d g λi m q h=>a i m (Nat.le_of_lt q) h];rfl
def tF(rc rm ra rt:Nat)(Bn En:Nat):aq (Str×V):=[("codes",.ref rc),("marks",.ref rm),("base",.ref ra),("begin",nv Bn),("end",nv En),("told",.ref rt)]
def tLR:AF:=b3 2 (asC (aN "left") (asC (aN "right") asN))
inductive T1(B:MH)(r2 rc rm ra rt:Nat)(a:aq Int)(l:aq Op)(L:aq (Nat×Nat))(Bn En:Nat)(rest:aq V)(lo:Lo)(H:MH):Prop
 |mk {done q:aq (Nat×Nat)}{vs:aq V} (er:rest=q.map pN) (el:done++q=L) (F:Fs (tF rc rm ra rt Bn En) lo) (hx:Hx B H) (G:Gr H 3 rt vs ((dR same a l done Bn En).map reD)) (h2:H[r2]? =ao (.list (L.map pN))):T1 B r2 rc rm ra rt a l L Bn En rest lo H
theorem xK(done:aq (Nat×Nat))(p:Nat×Nat):dR same a l (done++[p]) Bn En=dR same a l done Bn En++bif decide (Bn<=p.1) && decide (p.2<=En) then [mZ same a l p] else []:=by
 delta dR
 rw[jw,dv,qp]
 cases decide (Bn<=p.1) && decide (p.2<=En)<;>rfl
theorem tIn_i{rc:Nat}(F:Fs (("right",nv p.2)::("left",nv p.1)::tF rc rm ra rt Bn En) lo)(B:H[rc]? =ao (.list (l.map Op.v)))(Z:LI H ra a)(I:l.length<1000)(al:a.length<1000)(b:p.1<=p.2/\p.2<=2*a.length)(G:Gr H 3 rt vs L)(dl:L.length<100000)(k:∀ {r H' j v},Fs (tF rc rm ra rt Bn En) r->Hx H j->H'=j.set rt (.list (vs++[v]))->Gr H' 3 rt (vs++[v]) (L++[reD (mZ same a l p)])->K .next r H'):tIn (C:=C) lo H K:=by
 refine aJ (cC (wB (λq=>aR (F _ (.ref rc) ⋯) q) (aG B) (w5 Op.v (λo=> !o.tag.isEq && (decide ((p.1:Int)<=2*o.i1) && decide (2*o.i1<=(p.2:Int)))) l (aG B) (Y208 I) (F.hide ⋯) ⋯ (λ{z t H1 P} hz u g x q=>chT_i g (u _ _ ⋯) (u _ _ ⋯) q) λ{H1} O E=>aS (aJ (cC ?_)))))
 have m:=F.cons "changes" (.ref H.length)
 generalize upd lo "changes" (.ref H.length)=t at m
 generalize hcs:l.filter (λo=> !o.tag.isEq && (decide ((p.1:Int)<=2*o.i1) && decide (2*o.i1<=(p.2:Int))))=D at E
 generalize hch:H.length=Q at E m
 have M:(l.take 1).length<=1000/\(l.drop (l.length-1)).length<=1000:=by exact rwL qm (rwL qo (zzM0 0x1124895fa3d07da01a0101fa3da01f43005 [l.length] ⋯))
 refine bE (eP (aR (m _ (.ref rc) ⋯) (cB (cB (cB (Lf.mk rfl (Lf.mk rfl (Lf.mk rfl (gK (aG (O _ _ B)) (by rw[bq];exact Y216 I) (by decide) (rwL (by rw[mK,(by
  intro α l
  rw[jL]
  show((l.drop 0).take (m3 l.length 1-0))=_
  rw[show m3 l.length 1=min 1 l.length from clipAt_nat l.length 1]
  cases l with
  |nil=>rfl
  |cons x l=>rw[qg (show 1<=(x::l).length from mx 1 l.length)];rfl:∀{α:Type}(l:aq α),pk l none (ao 1) none=l.take 1)]:pk (l.map Op.v) none (ao 1) none=(l.take 1).map Op.v) (eP (aR (m _ (.ref rc) ⋯) (aEy (cB (cB (Lf.mk rfl (Lf.mk rfl (Lf.mk rfl (gK (aG ((.app _ _:Hx H1 (H1++[.list ((l.take 1).map Op.v)])) _ _ (O _ _ B))) (by rw[bq];exact Y216 I) (by decide) (rwL (by rw[mK,(by
   intro α l
   rw[jL]
   show((l.drop (m3 l.length (-1))).take (l.length-m3 l.length (-1)))=_
   exact rwL (show m3 l.length (-1)=l.length-1 from clipAt_neg l.length 1 (c5 1)) (mn (by exact rwL qo (c5 _))):∀{α:Type}(l:aq α),pk l (ao (-1)) none none=l.drop (l.length-1))]:pk (l.map Op.v) (ao (-1)) none none=(l.drop (l.length-1)).map Op.v) ?_))))))))))))))))))))
 have R:Hx (H1++[MO.list ((l.take 1).map Op.v)]) (H1++[MO.list ((l.take 1).map Op.v)]++[.list ((l.drop (l.length-1)).map Op.v)]):=.app _ _
 refine pQ (R _ _ (aU _ _)) (aU _ _) (by rw[bq,bq];exact Y250 M) (rwR dv ?_)
 have hE:=aU (H1++[MO.list ((l.take 1).map Op.v)]++[MO.list ((l.drop (l.length-1)).map Op.v)]) (MO.list ((l.take 1++l.drop (l.length-1)).map Op.v))
 have y:=((.app _ _:Hx H1 (H1++[.list ((l.take 1).map Op.v)])).trans R).trans (.app _ _:Hx (H1++[MO.list ((l.take 1).map Op.v)]++[MO.list ((l.drop (l.length-1)).map Op.v)]) (H1++[MO.list ((l.take 1).map Op.v)]++[MO.list ((l.drop (l.length-1)).map Op.v)]++[.list ((l.take 1++l.drop (l.length-1)).map Op.v)]))
 revert y hE
 generalize (H1++[MO.list ((l.take 1).map Op.v)]++[MO.list ((l.drop (l.length-1)).map Op.v)]).length=re
 generalize H1++[MO.list ((l.take 1).map Op.v)]++[MO.list ((l.drop (l.length-1)).map Op.v)]++[MO.list ((l.take 1++l.drop (l.length-1)).map Op.v)]=j
 refine λhE y=>(Lf.mk rfl ⟨⟨_,aG hE⟩,w5 Op.v (inO same D) _ (aG hE) (by exact rwL bx (Y249 M)) (m.hide ⋯) ⋯ (λ{z Y H5 P} hz u g x q=>fI (pE (bE (aR g (aR (u _ (.ref Q) ⋯) (Lp.mk (in_op (n:=0) (aG ((y.trans x) _ _ E))) (Lf.mk rfl ?_))))))) λ{s} T S=>aS (aJ ?_)⟩)
 ·cases w:inO same D z with
  |false=>exact bC (rwR w q)
  |true=>exact bH (nZ (rwR w q))
 have d:=m.cons "bare" (.ref j.length)
 generalize upd t "bare" (.ref j.length)=X at d
 generalize hbr:(l.take 1++l.drop (l.length-1)).filter (inO same D)=U at S
 have bl:U.length<=2000:=by
  exact rwR hbr (Nat.le_trans (gM ..) (rwL bx (Y248 M)))
 have i:=O.trans (y.trans T)
 have J:=G.hx i
 refine uY (d _ (.ref rt) ⋯) J.h (cT (aO (eP (aR (d _ (.ref ra) ⋯) (Evv.bin (Evv.n (d _ (nv p.1) ⋯)) .k (l8 (by decide)) _ (Evv.bin (Evv.n (d _ (nv p.2) ⋯)) .k (l8 (by decide)) _ (cB (Lf.mk rfl (Lf.mk rfl (Lf.mk rfl (gK (i.li Z) (by rw[bq];exact Y216 al) (by decide) (rwL (show ((p.1:Nat):Int)/2=((p.1/2:Nat):Int) from rfl) (rwL (show ((p.2:Nat):Int)/2=((p.2/2:Nat):Int) from rfl) (rwL (m9 Y13 (Y247 b zzD zzE zzD zzE) (Y246 b zzD zzE)) ?_))))))))))))))
 have x4:Hx s (s++[.list ((sl a ((p.1/2:Nat):Int) ((p.2/2:Nat):Int)).map V.int)]):=.app _ _
 have N:=aU s (MO.list ((sl a ((p.1/2:Nat):Int) ((p.2/2:Nat):Int)).map V.int))
 have ns:=fK J.h
 have A:=J.hx x4
 have c:=x4 _ _ ((y.trans T) _ _ E)
 have f:=x4 _ _ S
 revert N ns A c f x4
 generalize s.length=rs
 generalize s++[MO.list ((sl a ((p.1/2:Nat):Int) ((p.2/2:Nat):Int)).map V.int)]=H4
 refine λx4 N ns A c f=>(aO (Evv.bin (Evv.bin (Evv.bin .k (jU (x:="changes") (d _ (.ref Q) ⋯) (aG c) (by rw[bq];exact zzM2 0x54387583d07da40028a401dfa3d07da00007 [l.length,D.length] ⋯ I (hcs▸gM ..))) (jQ (by decide))) .k kB) (jU (x:="bare") (d _ (.ref j.length) ⋯) (aG f) (by rw[bq];exact zzM1 0x14387583d07da00001fb0f68007 [U.length] ⋯ bl)) aDr _ (aO (aR (d _ (.ref Q) ⋯) (bL ⟨(show 3<100 by decide),qY A.h (zzM2 0x95ec3283d07da40028a411c387583d07da00007 [L.length,vs.length] ⋯ dl G.len) (aS (k (d.re _ ⋯) (i.trans x4) rfl (A.put λg W=>?_)))⟩)))))
 rw[bq,bq]
 have e:(2*(D.length:Int)+1-(U.length:Int))=(mZ same a l p).len:=by
  unfold mZ chs cIn
  rw[hcs]
  rw[hbr]
 refine rwL e (re_rd (aG (W _ _ ns N)) (aG ((W _ _ (hch▸fK G.h) c).trans ?_)))
 unfold mZ chs
 rw[hcs]
theorem aIg{rc:Nat}(s:B[rt]? =none)(E:B[rc]? =ao (.list (l.map Op.v)))(t:LI B ra a)(w:l.length<1000)(al:a.length<1000)(bd:∀ p∈L,p.1<=p.2/\p.2<=2*a.length)(J:L.length<10000){b:aq V}(I:T1 B r2 rc rm ra rt a l L Bn En (v::b) lo H)(y:r2≠rt)(k:GoK (T1 B r2 rc rm ra rt a l L Bn En b) Q K):tLR v lo H λlo1 H1=>tBody (C:=C) lo1 H1 K:=by
 cases I with
 | @mk done q vs r h F f G n=>
 cases q with
 |nil=>cases r
 |cons p q=>
 cases r
 have d:(done++[p])++q=L:=by rw[cz];exact h
 refine (by exact λ{p R} q=>kch (B:=(2=2/\R (upd (upd lo "left" (nv p.1)) "right" (nv p.2)) H)) ⋯ ⟨rfl,q⟩:∀{p:Nat×Nat}{R:Lo->MH->Prop}(q:R (upd (upd lo "left" (nv p.1)) "right" (nv p.2)) H),tLR (pN p) lo H R) ?_
 have c:=(F.cons "left" (nv p.1)).cons "right" (nv p.2)
 generalize upd (upd lo "left" (nv p.1)) "right" (nv p.2)=lo1 at c
 have D:((dR same a l done Bn En).map reD).length<100000:=by
  rw[bq]
  delta dR
  rw[bq]
  exact ec (gM ..) (Y242 J (rwR bx (cu List.length h)))
 have g:=xK (a:=a) (l:=l) (Bn:=Bn) (En:=En) done p
 refine aJ (zS (fI (pE (bE (aR (c _ (nv Bn) ⋯) (aR (c _ (nv p.1) ⋯) (Lp.mk le_e (Lf.mk rfl ?_))))))))
 rw[show decide ((Bn:Int)<=(p.1:Int))=decide (Bn<=p.1) from fk.mpr ⟨λz=>Y241 z,λz=>Y240 z⟩]
 have j:(decide (Bn<=p.1) && decide (p.2<=En))=aL->bM (sK .next) K .next lo1 H:=λz=>by
  rw[z]at g
  refine aS (k.nx (.mk (vs:=vs) rfl d (c.re _ ⋯) f ?_ n))
  rw[g]
  show Gr H 3 rt vs ((_++[]).map reD)
  rw[c6];exact G
 cases i:decide (Bn<=p.1) with
 |false=>exact bC (bC ((i▸j) rfl))
 |true=>
  refine bH (fI (pE (bE (aR (c _ (nv p.2) ⋯) (aR (c _ (nv En) ⋯) (Lp.mk le_e (Lf.mk rfl ?_)))))))
  rw[show decide ((p.2:Int)<=(En:Int))=decide (p.2<=En) from fk.mpr ⟨λz=>Y241 z,λz=>Y240 z⟩]
  cases m:decide (p.2<=En) with
  |false=>rw[i,m]at j;exact bC (bC (j rfl))
  |true=>
   rw[i,m]at g
   refine bH (nZ (bH (tIn_i c (f _ _ E) (f.li t) w al (bd p (h▸jx _ ce)) G D λ{u H' M v} A o e x=>aS (k.nx (.mk (vs:=vs++[v]) rfl d A (rwL e ((f.trans o).set s)) ?_ ?_)))))
   ·exact rwL g (rwL dv x)
   ·exact rwL e (aE (o _ _ n) y.symm)
theorem aH7{rc:Nat}(E:H[rc]? =ao (.list (l.map Op.v)))(K:H[rm]? =ao (.list (mrk N f)))(x:LI H ra a)(A:l.length<1000)(al:a.length<1000)(t:N<100000)(u:begs f N=L.map Prod.fst)(w:ends f N=L.map Prod.snd)(bd:∀ p∈L,p.1<=p.2/\p.2<=2*a.length)(J:L.length<10000)(k:∀ {H' r},Hx H H'->(∀ g,(∀ i m,H.length<=i->H'[i]? =ao m->g[i]? =ao m)->rd g 4 (.ref r)=ao (.list ((dR same a l L Bn En).map reD)))->H[r]? =none->(∃ m,H'[r]? =ao m)->R (.ref r) H'):iS X [.ref rc,.ref rm,.ref ra,nv Bn,nv En] H R:=by
 refine⟨rfl,?_⟩
 have F:Fs [("end",nv En),("begin",nv Bn),("base",.ref ra),("marks",.ref rm),("codes",.ref rc)] (loB ["codes","marks","base","begin","end"] [.ref rc,.ref rm,.ref ra,nv Bn,nv En] lo0):=((((Fs.cons (l:=[]) nofun "codes" (.ref rc)).cons "marks" (.ref rm)).cons "base" (.ref ra)).cons "begin" (nv Bn)).cons "end" (nv En)
 show lF X (loB ["codes","marks","base","begin","end"] [.ref rc,.ref rm,.ref ra,nv Bn,nv En] lo0) H (jJ R)
 revert F
 generalize loB ["codes","marks","base","begin","end"] [.ref rc,.ref rm,.ref ra,nv Bn,nv En] lo0=lo
 refine λF=>(aJ (cC (iF (aS (aJ ?_)))))
 have F:=F.cons "told" (.ref H.length)
 have f1:=aH H
 have d:Hx H (H++[MO.list []]):=.app _ _
 have c:=Gr.new (H:=H) 3
 revert F f1 d c
 generalize upd lo "told" (.ref H.length)=D
 generalize H.length=n
 generalize H++[MO.list []]=H1
 refine λF f1 d c=>(gU (b6 (aO (aR (F _ (.ref rm) ⋯) (bL (zT X (d _ _ K) t u w λ{M B} o b f2=>Lf.mk rfl ⟨⟨_,aG b⟩,⟨_,dJ (T1 H B rc rm ra n a l L Bn En) (λI=>?_) (λI=>?_) (λI y=>aIg f1 E x A al bd J I ?_ y) _ 0 rfl (.mk (done:=[]) rfl rfl (F.re _ ⋯) (d.trans o) (c.hx o) b)⟩⟩))))))
 ·cases I with
  |mk s e F j G b=>exact aG b
 ·cases I with
  | @mk done q vs s e F j G b=>
   cases jc.mp s.symm
   rw[c6]at e
   subst e
   exact aS (aJ (jH (aR (F _ (.ref n) ⋯) (k j (λg q=>G.rd λi m z=>q i m (Nat.le_trans (qP f1) z)) f1 ⟨_,G.h⟩))))
 ·exact λq=>aM (f2.symm.trans (q▸c.h))
theorem aBn(B:lo x=ao (.ref ra))(p:lo y=ao (.int i))(o:lo z=ao (.int j))(r:LI H ra a)(al:a.length<1000)(c:0<=i)(d:i<=j)(b:j<=a.length)(s:off [(x,V.ref ra)] [".0","k"]=be)(f:off [(x,V.ref ra)] ["k"]=be)(k:∀ {H'},Hx H H'->H'[H.length]? =ao (.list ((sl a i j).map V.int))->Q (.ref H.length) H'):bJ (d8 C) [".0","k"] (iR (aI b7 (esC (eN y) (esC (eN z) esN)))) (aN "k") (tK be) (aV (aA aQ (eN x) (eN "k"))) lo H Q:=by
 obtain⟨u,rfl⟩:=Int.eq_ofNat_of_zero_le c
 obtain⟨w,t⟩:∃ w:Nat,j=w:=⟨j.toNat,Y272 d⟩
 subst t
 have F:Fs [(x,V.ref ra)] lo:=λy' v e=>by
  rw[List.lookup]at e
  by_cases q:y'=x
  ·subst q;rw[gy]at e;exact cxS e B
  ·rw[show (y'==x)=aL by simpa using q]at e;cases e
 have e:(List.range (w-u)).flatMap (λk:Nat=>[V.int (av a ((u:Int)+k))])=(sl a u w).map V.int:=by
  rw[jX (λk:Nat=>V.int (av a ((u:Int)+k))),(by
   intro a i j c d b
   refine ql (by rw[bq,hB];exact Y274 (gS c d b)) λt E m=>?_
   rw[bq,hB]at m
   rw[oq,List.getElem_range,aHt c (Y273 c b m)]
   exact List.getElem_take.trans List.getElem_drop:∀{a:aq Int}{i j:Int}(c:0<=i)(d:i<=j)(b:j<=a.length),sl a i j=(List.range (j-i).toNat).map λk:Nat=>av a (i+k)) c d b,qf,show ((w:Int)-u).toNat=w-u by exact Y174];rfl
 exact f7 (λk:Nat=>V.int ((u:Int)+k)) (λk=>[V.int (av a ((u:Int)+k))]) (Fs [(x,V.ref ra)]) (List.range (w-u)) (λq=>aF2 (Y241 d) (zzM2 0x54387583d07da40028a04a291021dfa3d07da00007 [a.length,w] ⋯ al b) (.n p) (.n o) q) (by rw[<-mJ];exact iH _ _) (F.hide s) (by rw[e,bq];exact zzM3 0x255ec3283d07da80028ac4a29101a2a1031e8a04a291021dfa3d07da00007 [a.length,w,(sl a ↑u ↑w).length,u] ⋯ al b (gS c d b)) (λk A=>(oH (J:=λlo=>lo "k" =ao (.int ((u:Int)+k))/\Fs [(x,V.ref ra)] lo) (aH H) (λi q=>q ⟨bK,i.up f⟩ (i.up f)) ⟨λ{D H1 acc Q} i g l q=>(bE (aR (i.2 x (.ref ra) (by rw[List.lookup,gy])) (aR i.1 (Lp.mk (fV (g.li r) (zzM0 0x1a29128a04000f42 [u,k] ⋯) (zzM2 0x8a68a4407da2a128ac40000aba0107da80007a29128a04087 [w,a.length,k,u] ⋯ b (m0.mp A)) (Y216 al)) (q g l)))))⟩)) λx h=>k x (by exact rwR e h)
def Hv.vv(x:Hv):V:=.tup [nv x.h.lo,nv x.h.hi,.int (bif x.h.w then 1 else 0),.ref x.n,x.v]
structure HL(H:MH)(r:Nat)(hs:aq Hv):Prop where
 h:H[r]? =ao (.list (hs.map Hv.vv))
 d:∀ x∈hs,(Off r H)[x.n]? =ao (.list (iV x.h.new))/\rd (Off r H) 3 x.v=ao (reD x.h.r)
theorem HL.hx(D:HL H r hs)(x:Hx H H'):HL H' r hs:=⟨x _ _ D.h,λy a=>⟨x.off ⟨_,D.h⟩ _ _ (D.d y a).1,lT (x.off ⟨_,D.h⟩).lx (D.d y a).2⟩⟩
theorem HL.put(D:HL H r hs)(b:(Off r H)[y.n]? =ao (.list (iV y.h.new)))(c:rd (Off r H) 3 y.v=ao (reD y.h.r)):HL (H.set r (.list (hs.map Hv.vv++[y.vv]))) r (hs++[y]):=by
 refine⟨(aK D.h _).trans (by rw[dv];rfl),λx a=>(rwL s8 ?_)⟩
 rcases gb.mp a with a |a
 ·exact D.d x a
 ·exact rwL (dc.mp a) ⟨b,c⟩
def gLh(ra rb r1 r2:Nat):aq (Str×V):=[("base",.ref ra),("side",.ref rb),("old",.ref r1),("new",.ref r2)]
inductive G1'(B:MH)(L:aq (Str×V))(ra rb r1 r2:Nat)(a b:aq Int)(i0 j0 x y:Int)(rest:aq V)(lo:Lo)(H:MH):Prop
 |mk {q:aq Op}{i j:Int} (er:rest=q.map Op.v) (ii:0<=i0/\i0<=i) (jj:0<=j0/\j0<=j) (c:Cq a b i j q x y) (F:Fs L lo) (hx:Hx B H) (h1:H[r1]? =ao (.list ((sl a i0 i).map V.int))) (h2:H[r2]? =ao (.list ((sl b j0 j).map V.int))):G1' B L ra rb r1 r2 a b i0 j0 x y rest lo H
inductive CqI(a b:aq Int)(i j x y:Int)(o:Op)(l:aq Op):Prop
 |mk (e1:o.i1=i) (e2:o.j1=j) (h1:o.i1<=o.i2) (h2:o.j1<=o.j2) (h:Cq a b o.i2 o.j2 l x y):CqI a b i j x y o l
theorem Cq.inv(h:Cq a b i j (o::l) x y):CqI a b i j x y o l:=by
 cases h with
 |eq c m h=>exact⟨rfl,rfl,gV _ c,gV _ c,h⟩
 |ch f d e h=>exact⟨rfl,rfl,d,e,h⟩
theorem aJ9(D:B[r1]? =none)(N:B[r2]? =none)(P:r1≠r2)(U:LI B ra a)(T:LI B rb b)(al:a.length<1000)(O:b.length<1000)(Z:(gLh ra rb r1 r2).map (λp=>L.lookup p.1)=(gLh ra rb r1 r2).map λp=>ao p.2)(oL:(["tag","i1","i2","j1","j2"].all λx=>off L [x])=be){x y:Int}(w:x<=a.length)(u:y<=b.length)(I:G1' B L ra rb r1 r2 a b k J x y (v::g) lo H)(W:GoK (G1' B L ra rb r1 r2 a b k J x y g) Q K):tOp v lo H λlo1 H1=>gIn (C:=C) lo1 H1 K:=by
 cases I with
 | @mk q i j S f e c F z E Y=>
 cases q with
 |nil=>cases S
 |cons o q=>
 cases S
 cases c.inv with
 |mk l m n r c=>
 have bd:=c.le
 have s:=hZ.mp oL
 refine aDq ?_
 have M:Fs L (loO o lo):=((((F.up (s "tag" (by decide+kernel))).up (s "i1" (by decide+kernel))).up (s "i2" (by decide+kernel))).up (s "j1" (by decide+kernel))).up (s "j2" (by decide+kernel))
 have G:=(F.re (gLh ra rb r1 r2) Z).op o
 revert M G
 generalize loO o lo=lo1
 intro M G
 have d1:B.length<=H.length:=Nat.le_of_not_lt λq=>by
  have:=z B.length
  have:H[H.length]? ≠none:=by
   rw[z _ _ (cg q)];nofun
  exact this (aH H)
 refine aJ (aGv (G _ (.ref r1) ⋯) E (aBn (G _ (.ref ra) ⋯) (G _ (.int o.i1) ⋯) (G _ (.int o.i2) ⋯) (z.li U) al (Y262 f l) n (Y265 w bd) ⋯ ⋯ λ{H1} A R=>uN (A _ _ E) R ?_ (aS (aJ ?_))))
 ·rw[bq,bq];exact Y264 al w f l bd (gS f.1 f.2 (Y266 w l n bd)) (gS (Y262 f l) n (Y265 w bd))
 rw[l]at R n
 refine rwL l (rwR dv (rwL (k9 f.2 n) ?_))
 have x2:Hx B (H1.set r1 (.list ((sl a k o.i2).map V.int))):=(z.trans A).set D
 have h:(H1.set r1 (.list ((sl a k o.i2).map V.int)))[r1]? =ao (.list ((sl a k o.i2).map V.int)):=aK (A _ _ E) _
 have d:(H1.set r1 (.list ((sl a k o.i2).map V.int)))[r2]? =ao (.list ((sl b J j).map V.int)):=aE (A _ _ Y) P
 revert x2 h d
 generalize H1.set r1 (.list ((sl a k o.i2).map V.int))=H2
 refine λx2 h d=>(aGv (G _ (.ref r2) ⋯) d (aBn (G _ (.ref rb) ⋯) (G _ (.int o.j1) ⋯) (G _ (.int o.j2) ⋯) (x2.li T) O (Y262 e m) r (Y261 u bd) ⋯ ⋯ λ{H3} t X=>uN (t _ _ d) X ?_ (aS (W.nx ?_))))
 ·rw[bq,bq];exact Y260 O u e m bd (gS e.1 e.2 (Y263 u m r bd)) (gS (Y262 e m) r (Y261 u bd))
 ·rw[m]at r
  exact rwL m (rwR dv (rwL (k9 e.2 r) (.mk rfl ⟨f.1,Y259 f n⟩ ⟨e.1,Y259 e r⟩ c M ((x2.trans t).set N) (aE (t _ _ h) P.symm) (aK (t _ _ d) _))))
def hF(ra rb rh:Nat)(w:cw):aq (Str×V):=[("base",.ref ra),("side",.ref rb),("who",.int (bif w then 1 else 0)),("hunks",.ref rh)]
def aF4:SF:=(aB (cL ["old","new"] (aY (esC (b8 esN) (esC (b8 esN) esN)))) (aB (d6 (bA C) (iL (eN "group")) tOp (gIn (C:=C))) (aB (bD "changes" (bJ (bA C) [".0","code"] (iL (eN "group")) (aN "code") (aW (tE neE) (tK be)) (aV (eN "code")))) (aB (aX (cV (eN "hunks") (aY (esC (aA aQ (aA aQ (eN "group") (eK (.int 0))) (eK (.int 1))) (esC (aA aQ (aA aQ (eN "group") (n9 (eK (.int 1)))) (eK (.int 2))) (esC (eN "who") (esC (eN "new") (esC (aY (esC (eN "old") (esC (aI bQ (esC (eN "group") esN)) (esC (eN "changes") esN)))) esN)))))))) (sK .next)))))
inductive H1'(B:MH)(r2 ra rb rh:Nat)(w:cw)(a b:aq Int)(ps:aq (Nat×aq Op))(rest:aq V)(lo:Lo)(H:MH):Prop
 |mk {done q:aq (Nat×aq Op)}{hs:aq Hv} (er:rest=q.map gv) (el:done++q=ps) (F:Fs (hF ra rb rh w) lo) (hx:Hx B H) (D:HL H rh hs) (e:hs.map Hv.h=done.map λp=>hu a b w p.2) (h2:H[r2]? =ao (.list (ps.map gv))) (hg:HG (Off rh H) ps):H1' B r2 ra rb rh w a b ps rest lo H
theorem aJ3(X:B[d]? =none)(M:LI B ra a)(hb:LI B rb b)(al:a.length<1000)(bl:b.length<1000)(gp:∀ p∈ps,GrP a b p.2/\p.2≠ []/\p.2.length<1000)(pl:ps.length<10000)(I:H1' B r2 ra rb d w a b ps (v::m) lo H)(go:GoK (H1' B r2 ra rb d w a b ps m) Q K):aN "group" v lo H λlo1 H1=>aF4 (C:=C) lo1 H1 K:=by
 cases I with
 | @mk done q O er W F n D e L hg=>
 cases q with
 |nil=>cases er
 |cons p q=>
 cases er
 have S:(done++[p])++q=ps:=by rw[cz];exact W
 have N:=W▸jx _ ce
 have n2:r2≠d:=λz=>by
  rw[z,D.h]at L
  have z2:O.map Hv.vv=ps.map gv:=by
   injection L with L
   injection L
  cases O with
  |nil=>
   exact ca (rwR (jc.mp z2.symm) N) cx
  |cons y O=>
   cases ps with
   |nil=>exact ca N cx
   |cons q ps=>cases z2
 refine xAA (gp p N) λP J gl=>?_
 have j:H[p.1]? =ao (.list (p.2.map Op.v))/\p.1≠d:=by
  have z:=hg p N
  by_cases q:d=p.1
  ·rw[<-q,show (Off d H)[d]? =ao .eset from aK D.h _]at z;cases z
  ·exact⟨(ez q).symm.trans z,λz=>q z.symm⟩
 have F1:=F.cons "group" (.ref p.1)
 revert F1
 generalize upd lo "group" (.ref p.1)=lo1
 refine λF1=>(aJ (kG (cT (aO (iF (aO (iF (bL ⟨(show 2<100 by decide),Lf.mk rfl ⟨rfl,Lf.mk (p:=upd (upd lo1 "new" (.ref (H++[MO.list []]).length)) "old" (.ref H.length)) ⋯ (aS ?_)⟩⟩))))))))
 have F2:=(F1.cons "new" (.ref (H++[MO.list []]).length)).cons "old" (.ref H.length)
 have R:Hx H (H++[MO.list []]++[MO.list []]):=(Hx.app _ _).trans (.app _ _)
 have Y:(H++[MO.list []]++[MO.list []])[H.length]? =ao (.list []):=(Hx.app _ _) _ _ (aU _ _)
 have q2:=aU (H++[MO.list []]) (MO.list [])
 have f1:=aH H
 have f2:=(Hx.app H [MO.list []]).fresh
 have ne:H.length≠(H++[MO.list []]).length:=by rw[bx];exact(qu _).symm
 revert F2 R Y q2 f1 f2 ne
 generalize upd (upd lo1 "new" (.ref (H++[MO.list []]).length)) "old" (.ref H.length)=aj
 generalize (H++[MO.list []]).length=t
 generalize H.length=x
 generalize H++[MO.list []]++[MO.list []]=H2
 refine λF2 R Y q2 f1 f2 ne=>(aJ (gU (wB (λq=>aR (F2 _ (.ref p.1) ⋯) q) (aG (R _ _ j.1)) ⟨_,dJ (G1' H (("old",V.ref x)::("new",V.ref t)::("group",.ref p.1)::hF ra rb d w) ra rb x t a b (s1 p.2) (t1 p.2) (s2 p.2) (t2 p.2)) (λI=>?_) (λ{A l} I=>?_) (λI go=>aJ9 f1 f2 ne (n.li M) (n.li hb) al bl ⋯ ⋯ P.ia P.jb I go) _ 0 rfl (.mk rfl ⟨P.i0,Int.le_refl _⟩ ⟨P.j0,Int.le_refl _⟩ P.c F2 R (by exact rwL lQ Y) (by exact rwL lQ q2))⟩)))
 ·cases I with
  |mk er ii jj c F n=>exact aG (n _ _ j.1)
 cases I with
 | @mk q5 i5 j5 U ii jj c F5 u k1 k2=>
 cases jc.mp U.symm
 cases c
 have G:=u _ _ j.1
 refine aS (aJ (cC (wB (λq=>aR (F5 _ (.ref p.1) ⋯) q) (aG G) (oZ (Q:=λv H2=>bM _ K .next (upd A "changes" v) H2) Op.v outC (λ_=>s7) p.2 (f6 (aG G) _ 0 rfl) trivial (by rw[pV,bq];exact Y258 gl (gM ..)) (λo _=>⟨λ{lo H acc P} i n M E k=>oE (neE_i bK (Lf.mk rfl (by
    unfold outC at k E
    cases e: !o.tag.isEq with
    |false=>rw[e]at k;exact bC (put0 n M rfl trivial k)
    |true=>rw[e]at k E;exact bH (aR bK (put1 (aH l) n M E rfl trivial k)))))⟩) λ{H6} T h6=>aS (aJ ?_)))))
 rw[pV]at h6
 have g:=F5.cons "changes" (.ref l.length)
 generalize upd A "changes" (.ref l.length)=ak at g
 have f:=u.trans T
 have D6:=D.hx f
 have s:=f _ _ j.1
 have nc:l.length≠d:=λq=>aM ((aH l).symm.trans (q▸(u _ _ D.h)))
 have ai:x≠d:=λq=>aM (f1.symm.trans (q▸D.h))
 have nn:t≠d:=λq=>aM (f2.symm.trans (q▸D.h))
 have E:O.length<10000:=by
  have h1:=cu List.length e
  rw[bq,bq]at h1
  exact Y257 pl h1 (rwR bx (cu List.length W))
 refine uY (g _ (.ref d) ⋯) D6.h (cT (aO (bE (g0_i (g _ (.ref p.1) ⋯) s J λo eo _=>cB (Lp.mk rfl (aO (bE (g1_i (g _ (.ref p.1) ⋯) s J λo2 Z _=>cB (Lp.mk rfl (aO (aR (g _ (.int (bif w then 1 else 0)) ⋯) (aO (aR (g _ (.ref t) ⋯) (aO (cT (aO (aR (g _ (.ref x) ⋯) (aO (jU (g _ (.ref p.1) ⋯) (aG s) (by rw[bq];exact Y208 gl) _ (aO (aR (g _ (.ref l.length) ⋯) (bL ⟨(show 3<100 by decide),bL ⟨(show 5<100 by decide),qY D6.h (by rw[bq];exact zzM1 0x57b0ca0f41f68000278c3d07da00007 [O.length] ⋯ E) (aS (go.nx ?_))⟩⟩))))))))))))))))))))))
 rw[eo,Z,bq]
 refine xEEAAA P.bd λu v e1 e2 e3 e4=>?_
 have ev:V.tup [.int (s1 p.2),.int (s2 p.2),.int (bif w then 1 else 0),.ref t,.tup [.ref x,.int (p.2.length:Nat),.ref l.length]]=Hv.vv ⟨hu a b w p.2,t,.tup [.ref x,.int (p.2.length:Nat),.ref l.length]⟩:=by
  show _=V.tup [.int ((s1 p.2).toNat:Nat),.int ((s2 p.2).toNat:Nat),.int (bif w then 1 else 0),.ref t,.tup [.ref x,.int (p.2.length:Nat),.ref l.length]]
  rw[show (((s1 p.2).toNat:Nat):Int)=s1 p.2 by exact Y255 e1,show (((s2 p.2).toNat:Nat):Int)=s2 p.2 by exact Y255 e2]
 exact rwL ev (.mk rfl S (g.re _ ⋯) ((n.trans f).set X) (D6.put (iE (T _ _ k2) nn.symm) (re_rd (r:=(hu a b w p.2).r) (aG (iE (T _ _ k1) ai.symm)) (aG (iE h6 nc.symm)))) (by rw[dv,dv,e];rfl) (aE (f _ _ L) n2.symm) (rwL s8 (hg.hx (f.off ⟨_,D.h⟩))))
theorem HL.new:HL (H++[.list []]) H.length []:=⟨aU _ _,λq h=>ca h cx⟩
theorem wC(M:LI H ra a)(O:LI H rb b)(al:a.length<64)(P:b.length<64)(n0:0<=n)(Y:∀ l,Ops a b l->l=W)(G:Ops a b W)(V:(groups n W).length<1000)(gn:∀ g∈groups n W,g.length<1000)(k:∀ {H':MH}{r:Nat}{hs:aq Hv},Hx H H'->H'[r]? =ao (.list (hs.map Hv.vv))->hs.map Hv.h=(groups n W).map (hu a b w)->(∀ x∈hs,H'[x.n]? =ao (.list (iV x.h.new))/\rd H' 3 x.v=ao (reD x.h.r))->H[r]? =none->R (.ref r) H'):gP X [.ref ra,.ref rb,.int n,.int (bif w then 1 else 0)] H R:=by
 refine⟨rfl,?_⟩
 have F:Fs [("who",.int (bif w then 1 else 0)),("n",.int n),("side",.ref rb),("base",.ref ra)] (loB ["base","side","n","who"] [.ref ra,.ref rb,.int n,.int (bif w then 1 else 0)] lo0):=(((Fs.cons (l:=[]) nofun "base" (.ref ra)).cons "side" (.ref rb)).cons "n" (.int n)).cons "who" (.int (bif w then 1 else 0))
 show jZ X (loB ["base","side","n","who"] [.ref ra,.ref rb,.int n,.int (bif w then 1 else 0)] lo0) H (jJ R)
 revert F
 generalize loB ["base","side","n","who"] [.ref ra,.ref rb,.int n,.int (bif w then 1 else 0)] lo0=lo
 refine λF=>(aJ (cC (iF (aS (aJ ?_)))))
 have F:=F.cons "hunks" (.ref H.length)
 have f1:=aH H
 have y:Hx H (H++[MO.list []]):=.app _ _
 have K:=HL.new (H:=H)
 revert F f1 y K
 generalize upd lo "hunks" (.ref H.length)=t
 generalize H.length=j
 generalize H++[MO.list []]=H1
 intro F f1 y K
 show d6 (bA C) (iL (aI (mV (l4 X.gc 6 X.gv) (λi=>i)) (esC (fR (cA X) (aI X.c_SM (esC (eK .none) (esC (eN "base") (esC (eN "side") esN)))) (esC (eN "n") esN)) esN))) (aN "group") (aF4) t H1 _
 refine gU (b6 (aO (show fR (cA X) (aI X.c_SM (esC (eK .none) (esC (eN "base") (esC (eN "side") esN)))) (esC (eN "n") esN) t H1 _ from (b6 (aO (cB (aO (aR (F _ (.ref ra) ⋯) (aO (aR (F _ (.ref rb) ⋯) (bL (aHy X (y.li M) (y.li O) (Y254 al) (Y254 P) λ{H2 rd rj rp m f} x2 S=>Lf.mk rfl ⟨⟨_,S.o⟩,aO (aR (F _ (.int n) ⋯) (bL ⟨rfl,bL (at_rdy X (Rdy.new X S ⋯ ⋯ (Y254 al) (λr h=>ec h.len al) x2 (aH H1) Y) (G.len al) λ{Z r2 rs it gi} T s ga=>(cU ga.hg λps A e1 J=>?_))⟩))⟩))))))))))))
 rw[e1]at s
 have pe:∀ p∈ps,p.2∈groups n W:=λp c=>J▸e9 c
 have L:∀ p∈ps,GrP a b p.2/\p.2≠ []/\p.2.length<1000:=λp c=>⟨(((Gp.of n0 G.cod).gl n0).grs (Int.le_refl 0) (Int.le_refl 0)).g _ (pe p c),((Gp.of n0 G.cod).gl n0).ne _ (pe p c),gn _ (pe p c)⟩
 have pl:ps.length<10000:=by
  have:=cu List.length J
  rw[bq]at this;exact zzM2 0x29278c3d07da40029a011dfa3d07da00007 [(groups n W).length,ps.length] ⋯ V this
 have N:=K.hx T.hx
 have E:HG (Off j Z) ps:=λp c=>iE (A p c) λz=>by
  have h:=A p c
  rw[<-z,N.h]at h
  cases Q:p.2 with
  |nil=>exact ((L p c).2.1) Q
  |cons=>cases (Q▸h)
 refine Lf.mk rfl ⟨⟨_,aG s⟩,⟨_,dJ (H1' H r2 ra rb j w a b ps) (λI=>?_) (λI=>?_) (λI go=>aJ3 f1 M O (Y252 al) (Y252 P) L pl I go) _ 0 rfl (.mk (done:=[]) rfl rfl (F.re _ ⋯) (y.trans T.hx) N rfl s E)⟩⟩
 ·cases I with
  |mk U B F u D e s A=>exact aG s
 ·cases I with
  | @mk done q hs U B F u D e s A=>
   cases jc.mp U.symm
   rw[c6]at B
   subst B
   refine aS (aJ (jH (aR (F _ (.ref j) ⋯) (k u D.h (e.trans ?_) (λx u=>⟨?_,lT (Off.lx _ _) (D.d x u).2⟩) f1))))
   ·rw[J,qf];rfl
   ·have z:=(D.d x u).1
    by_cases q:j=x.n
    ·rw[<-q,show (Off j _)[j]? =ao .eset from aK D.h _]at z;cases z
    ·exact(ez q).symm.trans z
def pe(e:Nat)(its:aq Hu):Nat:=its.rec (motive:=λq=>Nat->Nat) (λe=>e) (λh q ih q=>ih h.hi) e
def pt(a:aq Int)(e:Nat)(its:aq Hu):aq Int:=its.rec (motive:=λq=>Nat->aq Int) (λq=>[]) (λh q ih e=>(sl a e h.lo++h.new)++ih h.hi) e
theorem pe_c:pe e (h::r)=pe h.hi r:=rfl
theorem pt_c:pt a e (h::r)=(sl a e h.lo++h.new)++pt a h.hi r:=rfl
theorem oI:∀ {its:aq Hu}{e:Nat},pe e (its++[h])=h.hi:=λ{its}=>by
 induction its with
 |nil=>exact rfl
 |cons x r a=>intro e;rw[tD,pe_c,a]
theorem vS:ofw w (l++[h])=ofw w l++bif h.w==w then [h] else []:=by
 delta ofw
 rw[jw,qp]
 cases h.w==w<;>rfl
theorem zJ{b:SF}(a:Nat->Lo->MH->Prop)(hs:∀ {m lo H},a m lo H->∃ c:cw,(∀ P:cw->MH->Prop,P c H->t lo H P)/\(bif c then ∀ K,GoK (λlo' H'=>∃ m',m'<m/\a m' lo' H') Q K->b lo H K else Q .next lo H)):∀ (n m:Nat){lo:Lo}{H:MH},m<n->a m lo H->runW t b n lo H Q:=λn=>by
 induction n with
 |zero=>exact λm lo H d=>(ca d (Nat.not_lt_zero _))
 |succ n f=>
  refine λm lo H d h=>(xEA (hs h) λc j e=>?_)
  refine j _ ?_
  cases c with
  |true=>exact e _ (.loop fun⟨m',g,i⟩=>f m' (h8 g (Nat.le_of_lt_succ d)) i)
  |false=>exact e
theorem aGx(a:Evv f lo H (.ref r))(h:H[r]? =ao (.list vs))(q:g lo H (extK r lo K)):aX (oA f g) lo H K:=a _ (Lf.mk rfl ⟨⟨_,h⟩,q⟩)
theorem appE_i(a:Evv f lo H (.ref r))(h:H[r]? =ao (.list vs))(q:g lo H (appK r lo K)):aX (cV f g) lo H K:=a _ (Lf.mk rfl ⟨⟨_,h⟩,q⟩)
theorem wV(h:f lo H λv H1=>g lo H1 λw a=>Lp (mkL [v,w] a) Q):b8 (esC f (esC g esN)) lo H Q:=h
theorem pX(q:Q (.ref H.length) (H++[.list [v,w]])):Lp (mkL [v,w] H) Q:=Lp.mk (by exact cj (show 2<1000000 by decide)) q
theorem Hx.ln(x:Hx B H):B.length<=H.length:=Nat.le_of_not_lt λq=>by
 exact aM ((aH H).symm.trans (x _ _ (cg q)))
theorem aAc{B:MH}(x:B.length<=n):B[n]? =none:=ft x
def wN(w:cw):Nat:=bif w then 1 else 0
theorem r6(w:cw):wN w<=1:=by cases w<;>decide
theorem aC8(h:v≠w):wN v≠wN w:=by cases v<;>cases w<;>first |exact ca rfl h |decide
def ofv(w:cw)(l:aq Hv):aq Hv:=l.filter λx=>x.h.w==w
theorem r8:ofw w (l.map Hv.h)=(ofv w l).map Hv.h:=by unfold ofw ofv;rw[uv];rfl
theorem vT:ofv w (l++[x])=ofv w l++bif x.h.w==w then [x] else []:=by
 delta ofv
 rw[jw,qp]
 cases x.h.w==w<;>rfl
structure PS(H:MH)(a:aq Int)(n:Nat)(l0:Nat)(acc:aq Hv):Prop where
 tt:H[n+2]? =ao (.list [.ref n,.ref (n+1)])
 td:H[n+5]? =ao (.list [.ref (n+3),.ref (n+4)])
 te:H[n+6]? =ao (.list [nv (pe l0 (ofw aL (acc.map Hv.h))),nv (pe l0 (ofw be (acc.map Hv.h)))])
 t:∀ v,H[n+wN v]? =ao (.list (iV (pt a l0 (ofw v (acc.map Hv.h)))))
 d:∀ v,H[n+3+wN v]? =ao (.list ((ofv v acc).map Hv.v))
theorem PS.hx(P:PS H a n l0 acc)(x:Hx H H'):PS H' a n l0 acc:=⟨x _ _ P.tt,x _ _ P.td,x _ _ P.te,λv=>x _ _ (P.t v),λv=>x _ _ (P.d v)⟩
theorem PS.idx(a:lo x=ao (.ref r))(h:H[r]? =ao (.list [y,z]))(b:Evv E lo H (nv (wN v))):Evv (aA aQ (eN x) E) lo H (bif v then z else y):=λQ q=>
 bE (aR a (b _ (zB h (by cases v<;>rfl) (show 2<100000 by decide) q)))
theorem PS.new:PS (H++[.list [],.list [],.list [.ref H.length,.ref (H.length+1)],.list [],.list [],.list [.ref (H.length+3),.ref (H.length+4)],.list [nv l0,nv l0]]) a H.length l0 []:=by
 have g:∀ {L:aq MO} (i:Nat),(H++L)[H.length+i]? =L[i]? :=λ{L} i=>by rw[gO (lq _ _),Nat.add_sub_cancel_left]
 exact⟨g 2,g 5,g 6,λv=>by cases v<;>exact g _,λv=>by rw[Nat.add_assoc];cases v<;>exact g _⟩
theorem PS.put{H1:MH}(P:PS H a n l0 acc)(f:Hx H H1):PS (((H1.set (n+wN x.h.w) (.list (iV (pt a l0 (ofw x.h.w (acc.map Hv.h)))++iV (sl a (pe l0 (ofw x.h.w (acc.map Hv.h))) x.h.lo++x.h.new)))).set (n+3+wN x.h.w) (.list ((ofv x.h.w acc).map Hv.v++[x.v]))).set (n+6) (.list ([nv (pe l0 (ofw aL (acc.map Hv.h))),nv (pe l0 (ofw be (acc.map Hv.h)))].set (wN x.h.w) (nv x.h.hi)))) a n l0 (acc++[x]):=by
 have w1:=r6 x.h.w
 have b:=P.hx f
 have e:∀ v,ofw v ((acc++[x]).map Hv.h)=ofw v (acc.map Hv.h)++bif x.h.w==v then [x.h] else []:=λv=>by exact rwL dv vS
 refine⟨aE (aE (aE b.tt (Y290 w1)) (zzM0 0x680bda00a43f68000044 [n,wN x.h.w] ⋯)) (zzM0 0x680bda001bda00044 [n] ⋯),?_,?_,λv=>?_,λv=>?_⟩
 ·exact aE (aE (aE b.td (Y287 w1)) (zzM1 0x9a05f690280fda40001101f68007 [wN x.h.w,n] ⋯ w1)) (zzM0 0x6817da001bda00044 [n] ⋯)
 ·rw[aK (aE (aE b.te (Y284 w1)) (Y283 w1)) _,e,e]
  cases g:x.h.w with
  |false=>refine(?_:ao (MO.list [nv x.h.hi,_])=ao (MO.list [nv (pe l0 (_++[x.h])),nv (pe l0 (_++[]))]));rw[oI,c6]
  |true=>refine(?_:ao (MO.list [_,nv x.h.hi])=ao (MO.list [nv (pe l0 (_++[])),nv (pe l0 (_++[x.h]))]));rw[oI,c6]
 ·have w2:=r6 v
  by_cases q:x.h.w=v
  ·subst q
   rw[e,gy,f4,(by
    exact λ{h}=>λ{its}=>by
      induction its with
      |nil=>intro e;exact c6 _
      |cons x r c=>intro e;exact rwL tD (rwL pt_c (rwL pt_c (rwL pe_c (rwL c ((cz ..).symm))))):∀{h:Hu},∀ {its:aq Hu}{e:Nat},pt a e (its++[h])=pt a e its++(sl a (pe e its) h.lo++h.new))]
   refine(aE (aE (aK (b.t _) _) (zzM0 0x1a29a00a43f68000044 [n,wN x.h.w] ⋯)) (Y279 w2)).trans ?_
   delta iV
   rw[<-dv]
  ·rw[e,show (x.h.w==v)=aL by simpa using q,ik,c6]
   exact aE (aE (aE (b.t v) (Y281 (aC8 q))) (zzM1 0x168a2902a0fda40001101f68007 [wN v,n,wN x.h.w] ⋯ w2)) (Y279 w2)
 ·have w2:=r6 v
  by_cases q:x.h.w=v
  ·subst q
   rw[vT,gy,f4,dv]
   exact aE (aK (aE (b.d _) Y278) _) (Y275 w2)
  ·rw[vT,show (x.h.w==v)=aL by simpa using q,ik,c6]
   exact aE (aE (aE (b.d v) (Y277 w1)) (zzM1 0x4968a43f6a000a03f6a000044a29a01107 [wN x.h.w,wN v,n] ⋯ (aC8 q))) (Y275 w2)
structure Rv where
 w:Rw
 k:Nat
 o:Nat
 t:Nat
 d:Nat
 t0:Nat
 t1:Nat
def Rv.v(x:Rv):V:=.tup [.ref x.k,.ref x.o,.ref x.t,.ref x.d]
def rwD(w:Rw):iq:=.tuple [.list (w.kept.map dI),.list (w.old.map dI),.list [.list (w.t0.map dI),.list (w.t1.map dI)],.list [.list (w.d0.map reD),.list (w.d1.map reD)]]
structure nW(G:MH)(x:Rv):Prop where
 k:G[x.k]? =ao (.list (iV x.w.kept))
 t:G[x.t]? =ao (.list [.ref x.t0,.ref x.t1])
 t0:G[x.t0]? =ao (.list (iV x.w.t0))
 t1:G[x.t1]? =ao (.list (iV x.w.t1))
 d:rd G 6 x.v=ao (rwD x.w)
theorem nW.hx{a:MH}(D:nW G x)(h:Hx G a):nW a x:=⟨h _ _ D.k,h _ _ D.t,h _ _ D.t0,h _ _ D.t1,lT h.lx D.d⟩
structure RL(H:MH)(r:Nat)(ws:aq Rv):Prop where
 h:H[r]? =ao (.list (ws.map Rv.v))
 d:∀ x∈ws,nW (Off r H) x
theorem RL.hx(D:RL H r ws)(x:Hx H H'):RL H' r ws:=⟨x _ _ D.h,λy a=>(D.d y a).hx (x.off ⟨_,D.h⟩)⟩
theorem RL.put(D:RL H r ws)(b:nW (Off r H) y):RL (H.set r (.list (ws.map Rv.v++[y.v]))) r (ws++[y]):=by
 refine⟨(aK D.h _).trans (by rw[dv];rfl),λx a=>?_⟩
 rw[s8]
 rcases gb.mp a with a |a
 ·exact D.d x a
 ·exact rwL (dc.mp a) b
theorem RL.new:RL (H++[.list []]) H.length []:=⟨aU _ _,λq h=>ca h cx⟩
theorem aEc(h:lst H (.ref r)=ao [x,y])(a:rd H m x=ao d)(b:rd H m y=ao e):rd H (m+1) (.ref r)=ao (.list [d,e]):=by
 show(lst H (.ref r)).bind _=_
 rw[h]
 show(([x,y].mapM (rd H m)).map PyData.list)=_
 rw[fe,fe,a,b];rfl
theorem aD6{x:Rv}{b a:Nat}(k:lst H (.ref x.k)=ao (iV x.w.kept))(o:lst H (.ref x.o)=ao (iV x.w.old))(t:lst H (.ref x.t)=ao [.ref x.t0,.ref x.t1])(f:lst H (.ref x.t0)=ao (iV x.w.t0))(t1:lst H (.ref x.t1)=ao (iV x.w.t1))(d:lst H (.ref x.d)=ao [.ref b,.ref a])(e:rd H 4 (.ref b)=ao (.list (x.w.d0.map reD)))(c:rd H 4 (.ref a)=ao (.list (x.w.d1.map reD))):rd H 6 x.v=ao (rwD x.w):=by
 show(([V.ref x.k,.ref x.o,.ref x.t,.ref x.d].mapM (rd H 5)).map PyData.tuple)=_
 refine rwL fe (rwL fe (rwL fe (rwL fe (rwL (iD 4 k) (rwL (iD 4 o) (rwL (aEc t (iD 3 f) (iD 3 t1)) (rwL (aEc d e c) ?_)))))));rfl
def tHv:AF:=b3 5 (asC (aN "left") (asC (aN "right") (asC (aN "who") (asC (aN "new") (asC (aN "rest") asN)))))
def loH(x:Hv)(lo:Lo):Lo:=upd (upd (upd (upd (upd lo "left" (nv x.h.lo)) "right" (nv x.h.hi)) "who" (nv (wN x.h.w))) "new" (.ref x.n)) "rest" x.v
theorem aug_i(a:lo x=ao (nv k))(q:K .next (upd lo x (nv (k+1))) H):sY x s9 (eK (.int 1)) lo H K:=Lf.mk a (cB (Lp.mk rfl q))
def mgF(ra rq rr e:Nat):aq (Str×V):=[("base",.ref ra),("hunks",.ref rq),("rows",.ref rr),("seen",nv e)]
def inF(ra rq rr e l0 hi k n:Nat):aq (Str×V):=("k",nv k)::("low",nv l0)::("high",nv hi)::("texts",.ref (n+2))::("told",.ref (n+5))::("ends",.ref (n+6))::mgF ra rq rr e
def mIn2:SF:=(aB (cD (aA aQ (eN "hunks") (eN "k")) tHv) (aB (aX (oA (aA aQ (eN "texts") (eN "who")) (aA aP (dK (eN "base") (aA aQ (eN "ends") (eN "who")) (eN "left") (eK .none)) (eN "new")))) (aB (aX (cV (aA aQ (eN "told") (eN "who")) (eN "rest"))) (aB (cD (eN "right") (jG (eN "ends") (eN "who"))) (aB (bD "high" (aI mU (esC (eN "high") (esC (eN "right") esN)))) (aB (sY "k" s9 (eK (.int 1))) (sK .next)))))))
structure Hks(B:MH)(a:aq Int)(ra rq:Nat)(S:aq Hv):Prop where
 ha:LI B ra a
 al:a.length<64
 hq:B[rq]? =ao (.list (S.map Hv.vv))
 sl:S.length<200
 n:∀ x∈S,B[x.n]? =ao (.list (iV x.h.new))/\x.h.new.length<64
 r:∀ x∈S,rd B 3 x.v=ao (reD x.h.r)
 b:∀ x∈S,x.h.lo<=x.h.hi/\x.h.hi<=a.length
theorem Hks.hx(D:Hks B a ra rq S)(x:Hx B H):Hks H a ra rq S:=⟨x.li D.ha,D.al,x _ _ D.hq,D.sl,λy c=>⟨x _ _ (D.n y c).1,(D.n y c).2⟩,λy c=>lT x.lx (D.r y c),D.b⟩
inductive J1(B:MH)(a:aq Int)(S:aq Hv)(ra rq rr e l0:Nat)(T:aq Pe)(m:Nat)(lo:Lo)(H:MH):Prop
 |mk {acc R:aq Hv}{hi k:Nat} (em:R.length=m) (ek:k+R.length=S.length) (eR:S.drop k=R) (F:Fs (inF ra rq rr e l0 hi k B.length) lo) (hx:Hx B H) (P:PS H a B.length l0 acc) (mgE:mg l0 hi (acc.map Hv.h) (R.map Hv.h)=T)
  (pw:∀ v,(ofw v (R.map Hv.h)).Pairwise λh h'=>h.hi<h'.lo) (bd:∀ v,∀ h∈ofw v (R.map Hv.h),pe l0 (ofw v (acc.map Hv.h))<=h.lo) (eh:∀ v,pe l0 (ofw v (acc.map Hv.h))<=hi) (lh:l0<=hi) (ha:hi<=a.length) (as:∀ x∈acc,x∈S) (al:acc.length+R.length<=S.length):J1 B a S ra rq rr e l0 T m lo H
theorem yU{S:aq Hv}(h:S.drop k=x::R):(S.map Hv.vv)[k]? =ao x.vv/\x∈S/\S.drop (k+1)=R:=by
 have e:S[k]? =ao x:=by rw[<-qa,h];rfl
 exact⟨by rw[ma,e];rfl,fq e,by rw[<-qb,h];rfl⟩
theorem zZ:ofw w (h::l)=bif h.w==w then h::ofw w l else ofw w l:=by
 delta ofw
 rw[qp]
 cases h.w==w<;>rfl
theorem aEg(al:a.length<64):∀ {its:aq Hu}{e:Nat},(∀ h∈its,h.new.length<64)->its.length<=N->(pt a e its).length<=128*N:=λ{its}=>by
 induction its generalizing N with
 |nil=>intro e _ _;exact hN _
 |cons h r i=>
  intro e b c
  rw[pt_c,bx,bx]
  obtain⟨N,rfl⟩:∃ M,N=M+1:=⟨N-1,by exact Y309 (rwR e6 c)⟩
  have d:(sl a e h.lo).length<=a.length:=by
   exact((List.take_sublist _ _).trans (sO _ _)).length_le
  exact zzM4 0x15507da80120fa9aec000028b001c283d07dac0007a8483ea401c283d07da00007 [a.length,(pt a h.hi r).length,N,h.new.length,(sl a ↑e ↑h.lo).length] ⋯ al (i (N:=N) (e:=h.hi) (λg f=>b g (b4 _ f)) (by exact Y308 (rwR e6 c))) (b h ce) d
theorem tV(x y:aq Int):iV (x++y)=iV x++iV y:=dv
theorem gW(x:aq Int):(iV x).length=x.length:=bq ..
theorem aJz(D:Hks B a ra rq S)(em:R.length+1=m)(ek:k+(R.length+1)=S.length)(eR:S.drop k=x::R)(F:Fs (inF ra rq rr e l0 f k B.length) lo)(hx:Hx B H)(P:PS H a B.length l0 acc)(J:mg l0 f (acc.map Hv.h) (x.h::R.map Hv.h)=T)(pw:∀ v,(ofw v (x.h::R.map Hv.h)).Pairwise λh h'=>h.hi<h'.lo)(bd:∀ v,∀ h∈ofw v (x.h::R.map Hv.h),pe l0 (ofw v (acc.map Hv.h))<=h.lo)(eh:∀ v,pe l0 (ofw v (acc.map Hv.h))<=f)(lh:l0<=f)(ha:f<=a.length)(as:∀ x∈acc,x∈S)(al:acc.length+(R.length+1)<=S.length)(c:x.h.lo<=f)(go:GoK (λlo' H'=>∃ m',m'<m/\J1 B a S ra rq rr e l0 T m' lo' H') Q K):mIn2 lo H K:=by
 refine xAA (yU eR) λd1 M d2=>?_
 have u:=D.b x M
 have N:=D.hx hx
 have L:=D.al
 have O:=D.sl
 refine aJ (jI (bE (aR (F _ (.ref rq) ⋯) (aR (F _ (nv k) ⋯) (zB N.hq d1 (by rw[bq];exact Y306 O) ((by
  intro x R q
  rw[(by
   intro x
   unfold Hv.vv wN nv
   cases x.h.w<;>rfl:∀(x:Hv),x.vv= .tup [nv x.h.lo,nv x.h.hi,nv (wN x.h.w),.ref x.n,x.v])]
  exact kch (B:=(5=5/\R (loH x lo) H)) ⋯ ⟨rfl,q⟩:∀{x:Hv}{R:Lo->MH->Prop}(q:R (loH x lo) H),tHv x.vv lo H R) (aS ?_)))))))
 have G:Fs (("rest",x.v)::("new",.ref x.n)::("who",nv (wN x.h.w))::("right",nv x.h.hi)::("left",nv x.h.lo)::inF ra rq rr e l0 f k B.length) (loH x lo):=((((F.cons "left" (nv x.h.lo)).cons "right" (nv x.h.hi)).cons "who" (nv (wN x.h.w))).cons "new" (.ref x.n)).cons "rest" x.v
 revert G
 generalize loH x lo=r
 intro G
 have ew:Evv (eN "who") r H (nv (wN x.h.w)):=.n (G _ _ ⋯)
 have i2:=PS.idx (x:="ends") (G _ _ ⋯) P.te ew
 rw[show (bif x.h.w then nv (pe l0 (ofw be (acc.map Hv.h))) else nv (pe l0 (ofw aL (acc.map Hv.h))))=nv (pe l0 (ofw x.h.w (acc.map Hv.h))) by cases x.h.w<;>rfl]at i2
 have I:=bd x.h.w x.h (by rw[zZ,gy];exact ce)
 have tl:=aEg L (its:=ofw x.h.w (acc.map Hv.h)) (e:=l0) (λh z=>by
  obtain⟨y,o,rfl⟩:=gw.mp (rwR r8 z)
  exact(D.n y (as y (h7.mp o).1)).2) (by rw[r8,bq];exact Nat.le_trans (gM ..) (Y305 al O))
 have X:=N.n x M
 generalize hE:pe l0 (ofw x.h.w (acc.map Hv.h))=E at i2 I
 have p:(sl a E x.h.lo).length<64:=by
  exact zzM3 0x954283d07dac0028b04a28101a2b1031c283d07da80007aa9029a00147 [x.h.lo,x.h.hi,a.length,(sl a ↑E ↑x.h.lo).length,E] ⋯ u L (gS Y13 (Y240 I) (Y302 u))
 refine aJ (aGx (rwR (show (bif x.h.w then V.ref (B.length+1) else V.ref B.length)= .ref (B.length+wN x.h.w) by delta wN;cases x.h.w<;>rfl) (PS.idx (x:="texts") (G _ _ ⋯) P.tt ew)) (P.t _) (bE (eP (aR (G _ (.ref ra) ⋯) (i2 _ (aR (G _ (nv x.h.lo) ⋯) (cB (Lf.mk rfl (Lf.mk rfl (Lf.mk rfl (gK N.ha (by rw[bq];exact Y303 L) (by decide) (rwL (m9 Y13 (Y240 I) (Y302 u)) ?_))))))))))))
 have x1:Hx H (H++[.list ((sl a E x.h.lo).map V.int)]):=.app _ _
 refine aR (G _ (.ref x.n) ⋯) (pQ (aU H (MO.list ((sl a E x.h.lo).map V.int))) (x1 _ _ X.1) (by rw[bq,gW];exact zzM2 0x157b0ca0f41f68a400000a0f41f690001c283d07da00007 [x.h.new.length,(sl a ↑E ↑x.h.lo).length] ⋯ X.2 p) ?_)
 have Z:=aU (H++[MO.list ((sl a E x.h.lo).map V.int)]) (MO.list ((sl a E x.h.lo).map V.int++iV x.h.new))
 have g:=x1.trans (.app _ _:Hx (H++[MO.list ((sl a E x.h.lo).map V.int)]) (H++[MO.list ((sl a E x.h.lo).map V.int)]++[.list ((sl a E x.h.lo).map V.int++iV x.h.new)]))
 revert Z g
 generalize (H++[MO.list ((sl a E x.h.lo).map V.int)]).length=rp
 generalize H++[MO.list ((sl a E x.h.lo).map V.int)]++[MO.list ((sl a E x.h.lo).map V.int++iV x.h.new)]=H1
 intro Z g
 have s:=P.hx g
 have w1:=r6 x.h.w
 have W:∀ i,B[B.length+i]? =none:=λi=>aAc (lq _ _)
 have put:=P.put (x:=x) g
 rw[hE,tV]at put
 refine uN (s.t _) Z (by rw[gW,bx,bq,gW];exact Y300 tl X.2 p) (aS ?_)
 have t2:(H1.set (B.length+wN x.h.w) (.list (iV (pt a l0 (ofw x.h.w (acc.map Hv.h)))++((sl a E x.h.lo).map V.int++iV x.h.new))))[B.length+5]? =ao (.list [.ref (B.length+3),.ref (B.length+4)]):=aE s.td (Y287 w1)
 have j:(H1.set (B.length+wN x.h.w) (.list (iV (pt a l0 (ofw x.h.w (acc.map Hv.h)))++((sl a E x.h.lo).map V.int++iV x.h.new))))[B.length+3+wN x.h.w]? =ao (.list ((ofv x.h.w acc).map Hv.v)):=aE (s.d _) Y278
 have l:(H1.set (B.length+wN x.h.w) (.list (iV (pt a l0 (ofw x.h.w (acc.map Hv.h)))++((sl a E x.h.lo).map V.int++iV x.h.new))))[B.length+6]? =ao (.list [nv (pe l0 (ofw aL (acc.map Hv.h))),nv (pe l0 (ofw be (acc.map Hv.h)))]):=aE s.te (Y284 w1)
 have U:Hx B (H1.set (B.length+wN x.h.w) (.list (iV (pt a l0 (ofw x.h.w (acc.map Hv.h)))++((sl a E x.h.lo).map V.int++iV x.h.new)))):=(hx.trans g).set (W _)
 change PS (((H1.set (B.length+wN x.h.w) (.list (iV (pt a l0 (ofw x.h.w (acc.map Hv.h)))++((sl a E x.h.lo).map V.int++iV x.h.new)))).set _ _).set _ _) _ _ _ _ at put
 revert t2 j l U put
 generalize H1.set (B.length+wN x.h.w) (.list (iV (pt a l0 (ofw x.h.w (acc.map Hv.h)))++((sl a E x.h.lo).map V.int++iV x.h.new)))=H2
 intro t2 j l U put
 have vl:((ofv x.h.w acc).map Hv.v).length<1000000:=by
  rw[bq]
  exact ec (gM ..) (Y299 al O)
 refine aJ (appE_i (rwR (show (bif x.h.w then V.ref (B.length+4) else V.ref (B.length+3))= .ref (B.length+3+wN x.h.w) by delta wN;cases x.h.w<;>rfl) (PS.idx (v:=x.h.w) (x:="told") (G _ _ ⋯) t2 (.n (x:="who") (G _ _ ⋯)))) j (aR (G _ x.v ⋯) (qY j vl (aS (aJ (jI (aR (G _ (nv x.h.hi) ⋯) (uZ (.n (G _ _ ⋯)) (.n (G _ _ ⋯)) (aE l (Y283 w1)) (by exact(zzM1 0x50bd07da00001f68007 [wN x.h.w] ⋯ w1:wN x.h.w<2)) (show 2<100000 by decide) (aS (aJ (cC (b6 (aO (aR (G _ (nv f) ⋯) (aO (aR (G _ (nv x.h.hi) ⋯) (bL (max_e (aS ?_)))))))))))))))))))
 have Y:=G.cons "high" (.int (max (f:Int) x.h.hi))
 generalize upd r "high" (.int (max (f:Int) x.h.hi))=C at Y
 refine aJ (aug_i (k:=k) (Y _ _ ⋯) (aS ?_))
 have A:=Y.cons "k" (nv (k+1))
 generalize upd C "k" (nv (k+1))=ax at A
 rw[show max (f:Int) (x.h.hi:Int)=((max f x.h.hi:Nat):Int) by exact (zzM0 0x1112a4a9128a68084a29128a04083 [f,x.h.hi] ⋯)]at A
 have es:∀ v,ofw v ((acc++[x]).map Hv.h)=ofw v (acc.map Hv.h)++bif x.h.w==v then [x.h] else []:=λv=>by exact rwL dv vS
 refine go.nx ⟨R.length,zzM1 0x26907da0002907da00047 [R.length,m] ⋯ em,.mk rfl (zzM1 0x526aa41f6800006a07da40a00047 [k,R.length,S.length] ⋯ ek) d2 (A.re _ ⋯) ((U.set ?_).set (W _)) put ?_ (λv=>?_) (λv h z=>?_) (λv=>?_) (Y293 lh) (Y294 ha u) (λy o=>?_) ?_⟩
 ·rw[Nat.add_assoc];exact W _
 ·rw[<-J,mg_c,bp c,f4,dv];rfl
 ·have:=pw v
  rw[zZ]at this
  cases q:x.h.w==v with
  |false=>rw[q]at this;exact this
  |true=>exact(c3.mp (q▸this)).2
 ·rw[es]
  cases q:x.h.w==v with
  |false=>
   rw[ik,c6]
   exact bd v h (by exact rwL zZ (rwL q z))
  |true=>
   rw[f4,oI]
   have:=pw v
   rw[zZ,q]at this
   exact Nat.le_of_lt ((c3.mp this).1 h z)
 ·rw[es]
  cases q:x.h.w==v with
  |false=>rw[ik,c6];exact Y293 (eh v)
  |true=>rw[f4,oI];exact (zzM0 0x968a42a00 [x.h.hi,f] ⋯)
 ·rcases gb.mp o with o |o
  ·exact as y o
  ·exact rwL (dc.mp o) M
 ·exact rwL bx (rwL e8 (Y291 al))
inductive J1E(B:MH)(a:aq Int)(S:aq Hv)(ra rq rr e l0:Nat)(T:aq Pe)(lo:Lo)(H:MH):Prop
 |mk {acc R:aq Hv}{hi k:Nat} (ek:k+R.length=S.length) (eR:S.drop k=R) (F:Fs (inF ra rq rr e l0 hi k B.length) lo) (hx:Hx B H) (P:PS H a B.length l0 acc) (eT:T=⟨l0,hi,acc.map Hv.h⟩::pcs (R.map Hv.h)) (eh:∀ v,pe l0 (ofw v (acc.map Hv.h))<=hi) (lh:l0<=hi) (ha:hi<=a.length) (as:∀ x∈acc,x∈S) (al:acc.length+R.length<=S.length)
  (nx:∀ x R',R=x::R'->hi<x.h.lo):J1E B a S ra rq rr e l0 T lo H
theorem lt_k(d:lo "k" =ao (nv k))(c:lo "hunks" =ao (.ref r))(h:H[r]? =ao (.list vs))(a:vs.length=n)(b:n<100000)(q:P (decide (k<n)) H):tE (aA oLt (eN "k") (aI bQ (esC (eN "hunks") esN))) lo H P:=pE (bE (aR d (jU c (aG h) (zzM2 0xa4387583d07da0000387583d07da40007a68047 [vs.length,n] ⋯ a b) _ (Lp.mk lt_e (Lf.mk rfl (by exact rwL a (rwL (show decide ((k:Int)<(n:Nat))=decide (k<n) from fk.mpr ⟨λz=>zzM1 0x16907da00028a4407da28100087 [k,n] ⋯ z,λz=>Y228 z⟩) q)))))))
theorem aF0(D:Hks B a ra rq S)(J:J1 B a S ra rq rr e l0 T m lo H)(k:∀ {g H'},J1E B a S ra rq rr e l0 T g H'->K .next g H'):fJ mT mIn2 lo H K:=by
 refine⟨_,zJ (J1 B a S ra rq rr e l0 T) (λ{m lo H} J=>?_) (m+1) m (md m) J⟩
 cases J with
 | @mk acc R d l v f i F j P b pw bd r s o t al=>
 have u:=D.hx j
 have p:(S.map Hv.vv).length=S.length:=bq ..
 have n:=D.sl
 cases R with
 |nil=>
  refine⟨aL,λP q=>fI (lt_k (k:=l) (F _ _ ⋯) (F _ (.ref rq) ⋯) u.hq p (Y306 n) ?_),k (.mk f i F j P (by refine rwR b ?_;rfl) r s o t al λG G q=>nomatch q)⟩
  exact rwL (bw (by exact Y315 (rwR ly f))) (bC q)
 |cons x R=>
  obtain⟨y,E,A⟩:=yU i
  refine⟨decide (x.h.lo<=d),λP q=>fI (lt_k (k:=l) (F _ _ ⋯) (F _ (.ref rq) ⋯) u.hq p (Y306 n) ?_),?_⟩
  ·refine rwL (bp (show l<S.length by exact Y314 (rwR e6 f))) (bH (fI (pE (bE (bE (bE (aR (F _ (.ref rq) ⋯) (aR (F _ (nv l) ⋯) (zB u.hq y (zzM2 0xa4387583d07da00006a3d07da40007a68047 [(List.map Hv.vv S).length,S.length] ⋯ p n) (cB (Lp.mk rfl (aR (F _ (nv d) ⋯) (Lp.mk le_e (Lf.mk rfl ?_))))))))))))))
   rw[show decide ((x.h.lo:Int)<=(d:Int))=decide (x.h.lo<=d) from fk.mpr ⟨λz=>Y241 z,λz=>Y240 z⟩]
   revert q
   generalize decide (x.h.lo<=d)=z
   intro q
   cases z with
   |false=>exact bC q
   |true=>exact bH (nZ q)
  ·by_cases c:x.h.lo<=d
   ·exact rwL (bp c) (λK w=>aJz D v f i F j P b pw bd r s o t al c w)
   ·refine rwL (bw c) (k (.mk f i F j P ?_ r s o t al λy C q=>by cases q;exact zzM1 0x5a01f69000a29a00107 [x.h.lo,d] ⋯ c))
    rw[<-b]
    show mg l0 d (acc.map Hv.h) (x.h::R.map Hv.h)=_
    rw[mg_c,bw c];rfl
structure PT(H:MH)(n:Nat)(E:cw->Nat)(f:cw->aq Int)(g:cw->aq V):Prop where
 tt:H[n+2]? =ao (.list [.ref n,.ref (n+1)])
 td:H[n+5]? =ao (.list [.ref (n+3),.ref (n+4)])
 te:H[n+6]? =ao (.list [nv (E aL),nv (E be)])
 t:∀ v,H[n+wN v]? =ao (.list (iV (f v)))
 d:∀ v,H[n+3+wN v]? =ao (.list (g v))
theorem aA1{b:Nat}(s:LI B ra a)(al:a.length<64)(o:Hx B H)(P:PT H B.length E f g)(F:Fs (inF ra rq rr e l0 b k B.length) lo)(r:E w<=b)(j:b<=a.length)(fl:(f w).length<900000)(q:∀ {i H'},Fs (inF ra rq rr e l0 b k B.length) i->Hx B H'->PT H' B.length E (λv=>bif w==v then f v++sl a (E v) b else f v) g->K .next i H'):aN "who" (nv (wN w)) lo H λlo1 H1=>mFr lo1 H1 K:=by
 have G:=F.cons "who" (nv (wN w))
 show mFr (upd lo "who" (nv (wN w))) H K
 revert G
 generalize upd lo "who" (nv (wN w))=lo1
 intro G
 have m:Evv (eN "who") lo1 H (nv (wN w)):=.n (G _ _ ⋯)
 have l:=PS.idx (x:="texts") (G _ _ ⋯) P.tt m
 rw[show (bif w then V.ref (B.length+1) else V.ref B.length)= .ref (B.length+wN w) by delta wN;cases w<;>rfl]at l
 have p:=PS.idx (x:="ends") (G _ _ ⋯) P.te m
 rw[show (bif w then nv (E be) else nv (E aL))=nv (E w) by cases w<;>rfl]at p
 have h:=gS Y13 (Y240 r) (Y240 j)
 refine aJ (aGx l (P.t _) (eP (aR (G _ (.ref ra) ⋯) (p _ (aR (G _ (nv b) ⋯) (cB (Lf.mk rfl (Lf.mk rfl (Lf.mk rfl (gK (o.li s) (by rw[bq];exact Y303 al) (by decide) ?_))))))))))
 rw[m9 Y13 (zzM1 0x268a44a2a102a2a128a44068a040c7 [(sl a ↑(E w) ↑b).length,b,E w] ⋯ h) (Y240 j)]
 have c:Hx H (H++[.list ((sl a (E w) b).map V.int)]):=.app _ _
 have w1:=r6 w
 refine uN (c _ _ (P.t w)) (aU H (MO.list ((sl a (E w) b).map V.int))) (by rw[gW,bq];exact zzM4 0x2557b0ca0f41f6ba80000a2c128a44068ac40c76eef60f41f6a0001e8a401c283d07da00007 [a.length,b,(f w).length,(sl a ↑(E w) ↑b).length,E w] ⋯ al j fl h) (aS (q (G.re _ ⋯) ((o.trans c).set (aAc (lq _ _))) ⟨aE (c _ _ P.tt) (Y290 w1),aE (c _ _ P.td) (Y287 w1),aE (c _ _ P.te) (Y284 w1),λv=>?_,λv=>?_⟩))
 ·by_cases z:w=v
  ·subst z
   rw[gy,f4,tV]
   exact aK (c _ _ (P.t w)) _
  ·rw[show (w==v)=aL by simpa using z,ik]
   exact aE (c _ _ (P.t v)) (Y281 (aC8 z))
 ·exact aE (c _ _ (P.d v)) (Y277 w1)
theorem aKa(c d:Lo->MH->Prop)(f:∀ {K},GoK c Q K->tgt v lo H λlo1 H1=>body lo1 H1 K)(i:∀ {lo H K},c lo H->GoK d Q K->tgt w lo H λlo1 H1=>body lo1 H1 K)(g:∀ {lo H},d lo H->Q .next lo H):cZ (jE C) tgt body 3 ([v,w],0) lo H Q:=aA2 (λrest a H'=>(rest= [v,w]/\a=lo/\H'=H)\/(rest= [w]/\c a H')\/(rest= []/\d a H')) (λ{a H'} h=>by
  rcases h with h |h |h
  ·cases h.1
  ·cases h.1
  ·exact g h.2) (λ{z rest a H' K} h b=>by
  rcases h with ⟨e,rfl,rfl⟩ |⟨e,h⟩ |⟨e,_⟩
  ·cases e
   exact f ⟨λq=>b.nx (.inr (.inl ⟨rfl,q⟩)),λq=>b.ct (.inr (.inl ⟨rfl,q⟩)),b.br,b.rt⟩
  ·cases e
   exact i h ⟨λq=>b.nx (.inr (.inr ⟨rfl,q⟩)),λq=>b.ct (.inr (.inr ⟨rfl,q⟩)),b.br,b.rt⟩
  ·cases e) [v,w] 0 rfl (.inl ⟨rfl,rfl,rfl⟩)
theorem e2_i(b:H.length=n)(q:Q (.ref (n+2)) (H++[.list [],.list [],.list [.ref n,.ref (n+1)]])):b8 (esC (b8 esN) (esC (b8 esN) esN)) lo H Q:=by
 subst b
 refine wV (iF (iF (pX ?_)))
 have a:(H++[MO.list []]).length=H.length+1:=bx
 have c:(H++[MO.list []]++[MO.list []]).length=H.length+2:=by rw[bx,a];rfl
 rw[a,c,cz,cz];exact q
def sv7(n l0:Nat):aq MO:=[.list [],.list [],.list [.ref n,.ref (n+1)],.list [],.list [],.list [.ref (n+3),.ref (n+4)],.list [nv l0,nv l0]]
theorem mSw_i(c:H.length=n)(a:lo "low" =ao (nv l0))(q:K .next (upd (upd (upd lo "ends" (.ref (n+6))) "told" (.ref (n+5))) "texts" (.ref (n+2))) (H++sv7 n l0)):mSw lo H K:=by
 have b:(H++[MO.list [],.list [],.list [.ref n,.ref (n+1)]]).length=n+3:=by rw[bx,c];rfl
 have d:(H++[MO.list [],.list [],.list [.ref n,.ref (n+1)]]++[MO.list [],.list [],.list [.ref (n+3),.ref (n+3+1)]]).length=n+6:=by rw[bx,b];rfl
 refine kG (cT (aO (e2_i c (aO (e2_i b (aO (wV (aR a (aR a (pX (bL ⟨(show 3<100 by decide),?_⟩)))))))))))
 rw[d,cz,cz]
 exact Lf.mk rfl ⟨rfl,Lf.mk ⋯ q⟩
def mOut:SF:=(aB (cL ["low","high"] (aY (esC (aA aQ (aA aQ (eN "hunks") (eN "k")) (eK (.int 0))) (esC (aA aQ (aA aQ (eN "hunks") (eN "k")) (eK (.int 1))) esN)))) (aB mSw (aB (fJ mT mIn2) (aB (d6 (jE C) (iT (aY (esC (eK (.int 0)) (esC (eK (.int 1)) esN)))) (aN "who") mFr) (aB (aX (cV (eN "rows") (aY (esC (dK (eN "base") (eN "seen") (eN "low") (eK .none)) (esC (dK (eN "base") (eN "low") (eN "high") (eK .none)) (esC (eN "texts") (esC (eN "told") esN))))))) (aB (bD "seen" (eN "high")) (sK .next)))))))
inductive J0(B:MH)(a:aq Int)(S:aq Hv)(ra rq rr:Nat)(m:Nat)(lo:Lo)(H:MH):Prop
 |mk {R:aq Hv}{k e:Nat}{ws:aq Rv} (em:R.length=m) (ek:k+R.length=S.length) (eR:S.drop k=R) (F:Fs (("k",nv k)::mgF ra rq rr e) lo) (hx:Hx B H) (rl:RL H rr ws) (eq:ws.map Rv.w++g7 a (pcs (R.map Hv.h)) e=g7 a (pcs (S.map Hv.h)) 0) (el:i6 (pcs (R.map Hv.h)) e=i6 (pcs (S.map Hv.h)) 0) (ea:e<=a.length) (eh:∀ x R',R=x::R'->e<=x.h.lo) (wl:ws.length+R.length<=S.length):J0 B a S ra rq rr m lo H
theorem aJk:∀ {l:aq Hu}{lo a:Nat}{acc:aq Hu},((mg lo a acc l).map Pe.its).flatten=acc++l:=λ{l}=>by
 induction l with
 |nil=>intro lo a acc;exact mo.trans (c6 _).symm
 |cons h r b=>
  intro lo a acc
  rw[mg_c]
  cases decide (h.lo<=a) with
  |true=>rw[f4,b,cz];rfl
  |false=>rw[ik,jf,jq,b];rfl
theorem vQ:((pcs l).map Pe.its).flatten=l:=by
 cases l with
 |nil=>rfl
 |cons h r=>exact aJk
theorem mg_hd:∀ {l:aq Hu}{lo a:Nat}{acc:aq Hu},∃ p P,mg lo a acc l=p::P/\acc.length<=p.its.length:=λ{l}=>by
 induction l with
 |nil=>intro lo a acc;exact⟨_,_,rfl,c5 _⟩
 |cons h r b=>
  intro lo a acc
  refine rwL mg_c ?_
  cases decide (h.lo<=a) with
  |true=>
   obtain⟨p,P,e,q⟩:=b
   exact⟨p,P,e,Nat.le_trans (lq _ _) (rwR bx q)⟩
  |false=>exact⟨_,_,rfl,c5 _⟩
structure zD(S:aq Hv):Prop where
 l:S.Pairwise λx y=>x.h.lo<=y.h.lo
 v:∀ v,(ofw v (S.map Hv.h)).Pairwise λh h'=>h.hi<h'.lo
theorem zD.drop(O:zD S)(k:Nat):zD (S.drop k):=⟨O.l.sublist (sO k S),λv=>(O.v v).sublist (((sO k S).map Hv.h).filter _)⟩
theorem aIt{w1 w2:aq Int}{e b:aq Hv}(s:B[rr]? =none)(a:Hx B H)(rl:RL H rr ws)(f:H[r1]? =ao (.list (iV w1)))(y:H[r2]? =ao (.list (iV w2)))(g:H[n+2]? =ao (.list [.ref n,.ref (n+1)]))(t:H[n+5]? =ao (.list [.ref (n+3),.ref (n+4)]))(l:H[n]? =ao (.list (iV j)))(t1:H[n+1]? =ao (.list (iV k)))(w:H[n+3]? =ao (.list (e.map Hv.v)))(c:H[n+4]? =ao (.list (b.map Hv.v)))(n1:rr≠r1)(z:rr≠r2)(u:∀ i,i<7->rr≠n+i)(r:∀ x,x∈e\/x∈b->rd B 3 x.v=ao (reD x.h.r)):nW (Off rr H) ⟨⟨w1,w2,j,k,e.map λx=>x.h.r,b.map λx=>x.h.r⟩,r1,r2,n+2,n+5,n,n+1⟩:=by
 have o:∀ {i:Nat}{m:MO},i<7->H[n+i]? =ao m->(Off rr H)[n+i]? =ao m:=λhi h=>iE h (u _ hi)
 have p:Hx B (Off rr H):=a.set s
 have rL:∀ {i:Nat}{d:aq Hv},i<7->H[n+i]? =ao (.list (d.map Hv.v))->(∀ x∈d,rd B 3 x.v=ao (reD x.h.r))->rd (Off rr H) 4 (.ref (n+i))=ao (.list ((d.map λx=>x.h.r).map reD)):=λ{i d} hi h q=>by
  exact rwL qf (kH Hv.v (λx=>reD x.h.r) (aG (o hi h)) λx a=>lT p.lx (q x a))
 exact⟨iE f n1,o (by decide) g,o (i:=0) (by decide) l,o (by decide) t1,
  aD6 (aG (iE f n1)) (aG (iE y z)) (aG (o (by decide) g)) (aG (o (i:=0) (by decide) l)) (aG (o (by decide) t1)) (aG (o (by decide) t)) (rL (by decide) w λx a=>r x (.inl a)) (rL (by decide) c λx a=>r x (.inr a))⟩
theorem aJj(O:zD S)(D:Hks B a ra rq S)(hb:B[rr]? =none)(em:R.length+1=m)(ek:k+(R.length+1)=S.length)(eR:S.drop k=x::R)(F:Fs (("k",nv k)::mgF ra rq rr e) lo)(hx:Hx B H)(rl:RL H rr ws)(eq:ws.map Rv.w++g7 a (pcs ((x::R).map Hv.h)) e=g7 a (pcs (S.map Hv.h)) 0)(el:i6 (pcs ((x::R).map Hv.h)) e=i6 (pcs (S.map Hv.h)) 0)(ea:e<=a.length)(eh:e<=x.h.lo)(wl:ws.length+(R.length+1)<=S.length)(Y:GoK (λlo' H'=>∃ m',m'<m/\J0 B a S ra rq rr m' lo' H') Q K):mOut (C:=C) lo H K:=by
 refine xAA (yU eR) λd1 xS d2=>?_
 have xb:=D.b x xS
 have L:=D.hx hx
 have U:=D.al
 have sL:=D.sl
 have O':=O.drop k
 rw[eR]at O'
 have vl:(S.map Hv.vv).length<100000:=by rw[bq];exact Y306 sL
 refine aJ (kG (cT (aO (bE (bE (aR (F _ (.ref rq) ⋯) (aR (F _ (nv k) ⋯) (zB L.hq d1 vl (cB (Lp.mk rfl (aO (bE (bE (aR (F _ (.ref rq) ⋯) (aR (F _ (nv k) ⋯) (zB L.hq d1 vl (cB (Lp.mk rfl (bL ⟨(show 2<100 by decide),Lf.mk rfl ⟨rfl,Lf.mk (p:=upd (upd lo "high" (nv x.h.hi)) "low" (nv x.h.lo)) ⋯ (aS (aJ ?_))⟩⟩)))))))))))))))))))
 have F1:=(F.cons "high" (nv x.h.hi)).cons "low" (nv x.h.lo)
 generalize upd (upd lo "high" (nv x.h.hi)) "low" (nv x.h.lo)=aw at F1
 refine mSw_i rfl (l0:=x.h.lo) (F1 _ _ ⋯) (aS ?_)
 have F2:=((F1.cons "ends" (.ref (H.length+6))).cons "told" (.ref (H.length+5))).cons "texts" (.ref (H.length+2))
 generalize upd (upd (upd aw "ends" (.ref (H.length+6))) "told" (.ref (H.length+5))) "texts" (.ref (H.length+2))=az at F2
 have P:=PS.new (H:=H) (a:=a) (l0:=x.h.lo)
 refine aJ (aF0 L (J1.mk (T:=pcs ((x::R).map Hv.h)) (e:=e) (rr:=rr) rfl ek eR (F2.re _ ⋯) (.app _ _) P ((by
  intro h r q
  rw[mg_c,bp q,f4,Nat.max_self];rfl:∀{h:Hu}{r:aq Hu}(q:h.lo<=h.hi),pcs (h::r)=mg h.lo h.hi [] (h::r)) xb.1).symm O'.v (λv h hh=>?_) (λv=>xb.1) xb.1 xb.2 (λy z=>ca z cx) (by exact rwL e6 (Y324 wl))) λ{au H3} J=>aS (aJ ?_))
 ·obtain⟨y,z,rfl⟩:=gw.mp (h7.mp hh).1
  rcases du.mp z with q |z
  ·exact rwL q (c5 _)
  ·exact (c3.mp O'.l).1 y z
 cases J with
 | @mk acc R2 c k2 ax ay F3 x3 X eT W lh N as al nx=>
 have hr:rr<H.length:=by
  refine Nat.lt_of_not_le λq=>?_
  cases ((ft q)▸rl.h)
 have tl:∀ v,(pt a x.h.lo (ofw v (acc.map Hv.h))).length<900000:=λv=>by
  have:=aEg U (its:=ofw v (acc.map Hv.h)) (e:=x.h.lo) (λh hh=>by
   obtain⟨y,z,rfl⟩:=gw.mp (rwR r8 hh)
   exact(D.n y (as y (h7.mp z).1)).2) (by rw[r8,bq];exact Nat.le_trans (gM ..) (Y323 sL al))
  exact Y322 this
 refine gU (show iT (aY (esC (eK (.int 0)) (esC (eK (.int 1)) esN))) au H3 _ from cT (aO (cB (aO (cB (bL ⟨(show 2<100 by decide),Lf.mk rfl ⟨_,aKa (λlo' H'=>Fs (inF ra rq rr e x.h.lo c k2 H.length) lo'/\Hx H H'/\PT H' H.length (λv=>pe x.h.lo (ofw v (acc.map Hv.h))) (λv=>bif aL==v then pt a x.h.lo (ofw v (acc.map Hv.h))++sl a (pe x.h.lo (ofw v (acc.map Hv.h))) c else pt a x.h.lo (ofw v (acc.map Hv.h))) (λv=>(ofv v acc).map Hv.v)) (λlo' H'=>Fs (inF ra rq rr e x.h.lo c k2 H.length) lo'/\Hx H H'/\PT H' H.length (λv=>pe x.h.lo (ofw v (acc.map Hv.h))) (λv=>tx a x.h.lo (ofw v (acc.map Hv.h)) c) (λv=>(ofv v acc).map Hv.v)) (λ{K} Y=>aA1 (w:=aL) L.ha U x3 ⟨X.tt,X.td,X.te,X.t,X.d⟩ F3 (W aL) N (tl aL) λF4 u f=>Y.nx ⟨F4,u,f⟩) (λ{lo' H' K} I Y=>aA1 (w:=be) L.ha U I.2.1 I.2.2 I.1 (W be) N (tl be) λF4 u f=>Y.nx ⟨F4,u,?_⟩) (λ{ba j} I=>aS (aJ ?_))⟩⟩))))))
 ·refine⟨f.tt,f.td,f.te,λv=>(f.t v).trans ?_,f.d⟩
  rw[(by
   exact λ{c}=>λ{its}=>by
     induction its with
     |nil=>exact rfl
     |cons x r ih=>intro e;exact rwL tx_c (rwL pt_c (rwL pe_c (rwL ih ((cz ..).symm)))):∀{c:Nat},∀ {its:aq Hu}{e:Nat},tx a e its c=pt a e its++sl a (pe e its) c)]
  cases v<;>rfl
 refine xAA I λF4 u f=>?_
 have s:=rl.hx u
 refine uY (F4 _ (.ref rr) ⋯) s.h (cT (aO (eP (aR (F4 _ (.ref ra) ⋯) (aR (F4 _ (nv e) ⋯) (aR (F4 _ (nv x.h.lo) ⋯) (cB (Lf.mk rfl (Lf.mk rfl (Lf.mk rfl (gK ((u.li L.ha)) (by rw[bq];exact Y303 U) (by decide) (rwL (m9 Y13 (Y240 eh) (Y321 lh N)) ?_))))))))))))
 have x5:Hx j (j++[.list ((sl a e x.h.lo).map V.int)]):=.app _ _
 have E:=aU j (MO.list ((sl a e x.h.lo).map V.int))
 refine aO (eP (aR (F4 _ (.ref ra) ⋯) (aR (F4 _ (nv x.h.lo) ⋯) (aR (F4 _ (nv c) ⋯) (cB (Lf.mk rfl (Lf.mk rfl (Lf.mk rfl (gK ((u.trans x5).li L.ha) (by rw[bq];exact Y303 U) (by decide) (rwL (m9 Y13 (Y240 lh) (Y240 N)) ?_))))))))))
 have x6:Hx (j++[MO.list ((sl a e x.h.lo).map V.int)]) (j++[MO.list ((sl a e x.h.lo).map V.int)]++[.list ((sl a x.h.lo c).map V.int)]):=.app _ _
 have G:=aU (j++[MO.list ((sl a e x.h.lo).map V.int)]) (MO.list ((sl a x.h.lo c).map V.int))
 have Z:=x6 _ _ E
 have n1:rr≠j.length:=λq=>aM ((aH j).symm.trans (q▸s.h))
 have n2:rr≠(j++[MO.list ((sl a e x.h.lo).map V.int)]).length:=λq=>aM ((aH _).symm.trans (q▸x5 _ _ s.h))
 have o:=x5.trans x6
 revert Z G n1 n2 o
 generalize (j++[MO.list ((sl a e x.h.lo).map V.int)]).length=r2
 generalize j.length=r1
 generalize j++[MO.list ((sl a e x.h.lo).map V.int)]++[MO.list ((sl a x.h.lo c).map V.int)]=H5
 intro G E n1 n2 o
 have A:=s.hx o
 have g:∀ {i:Nat}{m:MO},j[H.length+i]? =ao m->H5[H.length+i]? =ao m:=λh=>o _ _ h
 have fl:=vQ (l:=(x::R).map Hv.h)
 rw[eT,jf,jq,vQ]at fl
 have fl:=cu List.length fl
 rw[bx,bq,bq,bq,e6]at fl
 obtain⟨p,P,e1,M⟩:=mg_hd
 have e3:p=⟨x.h.lo,c,acc.map Hv.h⟩:=by
  injection (e1.symm.trans eT)
 rw[e3]at M
 have M:=M
 rw[bq]at M
 refine aO (aR (F4 _ (.ref (H.length+2)) ⋯) (aO (aR (F4 _ (.ref (H.length+5)) ⋯) (bL ⟨(show 4<100 by decide),qY A.h (by rw[bq];exact Y299 wl sL) (aS (aJ (cC (aR (F4 _ (nv c) ⋯) (aS (Y.nx ⟨R2.length,Y319 em fl M,.mk rfl ax ay ((F4.cons "seen" (nv c)).re _ ⋯) ((hx.trans (u.trans o)).set hb) (A.put (aIt hb (hx.trans (u.trans o)) A E G (g f.tt) (g f.td) (g (f.t aL)) (g (f.t be)) (g (f.d aL)) (g (f.d be)) n1 n2 (λi _=>Y320 hr) λy z=>D.r y (as y (z.elim (λh=>(h7.mp h).1) λh=>(h7.mp h).1)))) ?_ ?_ N (λy R' q=>Nat.le_of_lt (nx y R' q)) ?_⟩))))))⟩))))
 ·rw[eT,oG]at eq
  rw[<-eq,dv,cz]
  delta rowM
  refine rwL r8 (rwL r8 (rwL qf (rwL qf ?_)))
  rfl
 ·rw[eT,tP]at el
  exact el
 ·exact rwL bx (rwL e8 (Y318 wl fl M))
theorem aEh(h:e<=a.length):pk (a.map V.int) (ao (e:Int)) none none=iV (sl a e a.length):=by
 delta iV
 rw[mK,(by
  intro α l j b c
  rw[jL]
  show((l.drop (m3 l.length j)).take (l.length-m3 l.length j))=_
  exact rwL (mA b c) (mn (by exact rwL qo (c5 _))):∀{α:Type}{l:aq α}{j:Int}(b:0<=j)(c:j<=l.length),pk l (ao j) none none=l.drop j.toNat) Y13 (Y240 h),xP]
theorem zD.of(T:Two z M O):zD (both M O):=by
 have l:=T.low
 rw[ja]at l
 refine⟨l,λv=>?_⟩
 cases v with
 |false=>exact rwL T.of.1 T.pm
 |true=>exact rwL T.of.2 T.po
theorem RL.rd(D:RL H r ws):Mine.Internal.rd H 7 (.ref r)=ao (.list ((ws.map Rv.w).map rwD)):=by
 exact rwL qf (kH Rv.v (λx=>rwD x.w) (aG D.h) λx a=>lT (Off.lx _ _) (D.d x a).d)
theorem aCi(O:zD S)(D:Hks H a ra rq S)(k:∀ {H':MH}{r r2:Nat}{ws:aq Rv},Hx H H'->RL H' r ws->ws.map Rv.w=g7 a (pcs (S.map Hv.h)) 0->H'[r2]? =ao (.list (iV (sl a (i6 (pcs (S.map Hv.h)) 0:Nat) a.length)))->ws.length<=S.length->R (.tup [.ref r,.ref r2]) H'):iU X [.ref ra,.ref rq] H R:=by
 refine⟨rfl,?_⟩
 have F:Fs [("hunks",.ref rq),("base",.ref ra)] (loB ["base","hunks"] [.ref ra,.ref rq] lo0):=(Fs.cons (l:=[]) nofun "base" (.ref ra)).cons "hunks" (.ref rq)
 revert F
 generalize loB ["base","hunks"] [.ref ra,.ref rq] lo0=lo
 refine λF=>(aJ (kG (cT (aO (iF (aO (cB (aO (cB (bL ⟨(show 3<100 by decide),Lf.mk rfl ⟨rfl,Lf.mk (p:=upd (upd (upd lo "k" (nv 0)) "seen" (nv 0)) "rows" (.ref H.length)) ⋯ (aS (aJ ?_))⟩⟩))))))))))
 have d:=((F.cons "k" (nv 0)).cons "seen" (nv 0)).cons "rows" (.ref H.length)
 have f1:=aH H
 have n:Hx H (H++[MO.list []]):=.app _ _
 have g:=RL.new (H:=H)
 revert d f1 n g
 generalize upd (upd (upd lo "k" (nv 0)) "seen" (nv 0)) "rows" (.ref H.length)=o
 generalize H.length=rr
 generalize H++[MO.list []]=H1
 intro d f1 n g
 show fJ (tE (aA oLt (eN "k") (aI bQ (esC (eN "hunks") esN)))) (mOut) o H1 _
 refine⟨_,zJ (J0 H a S ra rq rr) (λ{m lo H} J=>?_) (S.length+1) S.length (md _) (.mk rfl (Nat.zero_add _) rfl (d.re _ ⋯) n g rfl rfl (hN _) (λE E E=>hN _) (se (Nat.zero_add _)))⟩
 cases J with
 | @mk R j e ws y f A b c s v t u B i=>
 cases R with
 |nil=>
  refine⟨aL,λP q=>lt_k (k:=j) (b _ _ ⋯) (b _ (.ref rq) ⋯) (D.hx c).hq (bq ..) (Y306 D.sl) (rwL (bw (by exact Y315 (rwR ly f))) q),?_⟩
  ·exact aS (aJ (jH (cT (aO (aR (b _ (.ref rr) ⋯) (aO (eP (aR (b _ (.ref ra) ⋯) (aR (b _ (nv e) ⋯) (cB (cB (Lf.mk rfl (Lf.mk rfl (Lf.mk rfl (gK (c.li D.ha) (by rw[bq];exact Y303 D.al) (by decide) (rwL (aEh u) (bL ⟨(show 2<100 by decide),(t▸k) (c.trans (.app _ _)) (s.hx (.app _ _)) (rwR v ((c6 _).symm)) (aU _ _) (by rw[ly]at i;exact i)⟩)))))))))))))))))
 |cons x R=>
  exact⟨be,λP q=>lt_k (k:=j) (b _ _ ⋯) (b _ (.ref rq) ⋯) (D.hx c).hq (bq ..) (Y306 D.sl) (rwL (bp (show j<S.length by exact Y314 (rwR e6 f))) q),λK z=>aJj O D f1 y f A b c s v t u (B x R rfl) i z⟩
theorem aAq:∀ (a:aq V) (p:Nat),vs.drop p=a->Its (jE C) B (vs,p) a:=λn=>by
 induction n with
 |nil=>
  exact λp b=>(.nil λ{H P} c q=>tA (ft (mj.mp b)) q)
 |cons v a d=>
  exact λp b=>(.cons (λ{H P} c q=>tA (o:=ao v) (by rw[<-qa,b];rfl) q) (d (p+1) (by rw[<-qb,b];rfl)))
inductive CT(B:MH)(F:aq (Str×V))(T:cw->Nat->MH->Prop)(l:aq cw)(lo:Lo)(H:MH):Prop
 |a (e:l= [aL,be]) (F0:Fs F lo) (hx:Hx B H) (h:H[B.length]? =ao (.list []))
 |b {r:Nat} (e:l= [be]) (F0:Fs F lo) (hx:Hx B H) (h:H[B.length]? =ao (.list [.ref r])) (t:∀ G,Ag B.length H G->T aL r G)
 |c {r s:Nat} (e:l= []) (F0:Fs F lo) (hx:Hx B H) (h:H[B.length]? =ao (.list [.ref r,.ref s])) (t:∀ G,Ag B.length H G->T aL r G/\T be s G)
theorem Ag.hx(x:Hx H H')(a:Ag n H' G):Ag n H G:=λi m q h=>a i m q (x _ _ h)
theorem Ag.set{b:MO}(a:Ag n (H.set n b) G):Ag n H G:=λi m q h=>a i m q (aE h (gq q))
theorem Ag.refl(n:Nat)(H:MH):Ag n H H:=λq q q h=>h
theorem j7(u:cw->V)(T:cw->Nat->MH->Prop)(w:∀ {P:aq V×Nat->MH->Prop},P ([u aL,u be],0) H->p lo H P)(o:Fs F (hide n lo))(f:off F [x]=be)(hs:∀ {v:cw}{g:Lo}{H1:MH}{R:EK},g x=ao (u v)->Fs F g->Hx H H1->H.length<H1.length->(∀ {r m},Hx H1 m->(∀ G,Ag H.length m G->T v r G)->R (.ref r) m)->E g H1 R)(k:∀ {r0 r1 H'},Hx H H'->H'[H.length]? =ao (.list [.ref r0,.ref r1])->(∀ G,Ag H.length H' G->T aL r0 G/\T be r1 G)->Q (.ref H.length) H'):bJ (jE C) n p (aN x) (tK be) (aV E) lo H Q:=by
 refine w ⟨_,pK (B:=H) u (CT H F T) (λJ=>?_) (λJ=>?_) (λ{v l g H1 P} J q=>?_) [aL,be] (aAq _ 0 rfl) (.a rfl o (.app _ _) (aU _ _))⟩
 ·cases J with
  |a _ _ d=>exact d
  |b _ _ d=>exact d
  |c _ _ d=>exact d
 ·cases J with
  |a e=>cases e
  |b e=>cases e
  |c e o d h t=>exact k d h t
 ·cases J with
  |a e j d h=>
   cases e
   refine lP (hs bK (j.up f) d (fK h) λ{r m} i t=>Lf.mk (c7 (i _ _ h)) ⟨(show 0<1000000 by decide),q (.b rfl (j.up f) ((d.trans i).set (aH H)) (aK (i _ _ h) _) λG a=>t G a.set)⟩)
  |b e j d h s=>
   cases e
   refine lP (hs bK (j.up f) d (fK h) λ{r m} i t=>Lf.mk (c7 (i _ _ h)) ⟨(show 1<1000000 by decide),q (.c rfl (j.up f) ((d.trans i).set (aH H)) (aK (i _ _ h) _) λG a=>⟨s G (a.set.hx i),t G a.set⟩)⟩)
  |c e=>cases e
theorem aBz{K:ItK C}{b:IF K}{a:Nat}(q:b (upd lo x v) H λit H1=>∃ n,lS K tgt t (c a) n it (upd lo x v) H1 P):fF (aN x) (tK be) (mB K b tgt t c a) v lo H P:=q
theorem cat_at{b:aq Str}{Q:EK}{it:Nat×Nat}(ps:aq (Nat×aq Int))(l:Its (bA C) H it (ps.map rv))(f:∀ p∈ps,H[p.1]? =ao (.list (iV p.2)))(a:(ps.map Prod.snd).flatten.length<1000000)(k:∀ {H'},Hx H H'->H'[H.length]? =ao (.list (iV (ps.map Prod.snd).flatten))->Q (.ref H.length) H'):∃ n,lS (bA C) (aN x) (tK be) (mB (bA C) (iL (eN x)) (aN z) (tK be) (aV (eN z)) H.length) n it (hide b lo) (H++[.list []]) λs m=>Q (.ref H.length) m:=by
 have e:ps.flatMap (λp=>p.2.flatMap λi=>[V.int i])=iV (ps.map Prod.snd).flatten:=by
  rw[(funext λp=>jX V.int p.2:(λp:Nat×aq Int=>p.2.flatMap λi=>[V.int i])=λp=>iV p.2)]
  delta iV
  rw[List.map_flatten,qf,List.flatMap_def];rfl
 refine oZ rv (λp=>p.2.flatMap λi=>[V.int i]) (λs=>s7) ps l trivial (by rw[e,gW];exact a) (λp j=>⟨λ{lo H1 acc P} i g r a o=>aBz (wB (λq=>aR bK q) (aG (g _ _ (f p j))) ⟨_,pJ V.int (λi=>[V.int i]) (λs=>s7) p.2 (f6 (aG (f p j)) _ 0 rfl) (λo s=>zW (aH H) λhz c d q=>aR hz (q c d)) trivial g r a o⟩)⟩) λx h=>k x (by exact rwR e h)
structure Ew(H:MH)(a:aq Int)(ra rS rC rR:Nat)(s c:cw->Nat)(b:cw->aq Int)(l:cw->aq Op)(n:cw->Int):Prop where
 ha:LI H ra a
 hS:H[rS]? =ao (.list [.ref (s aL),.ref (s be)])
 hC:H[rC]? =ao (.list [.ref (c aL),.ref (c be)])
 hR:H[rR]? =ao (.list [.int (n aL),.int (n be)])
 s:∀ v,LI H (s v) (b v)
 c:∀ v,H[c v]? =ao (.list ((l v).map Op.v))
structure Good(a:aq Int)(b:cw->aq Int)(l:cw->aq Op)(n:cw->Int):Prop where
 al:a.length<64
 bl:∀ v,(b v).length<64
 k:∀ v,Cod a (b v) none 0 0 (l v)
 ll:∀ v,(l v).length<1000
 n:∀ v,0<=n v/\n v<1000
theorem Ew.hx{s c:cw->Nat}{b:cw->aq Int}(E:Ew H a ra rS rC rR s c b l n)(x:Hx H H'):Ew H' a ra rS rC rR s c b l n:=⟨x.li E.ha,x _ _ E.hS,x _ _ E.hC,x _ _ E.hR,λv=>x.li (E.s v),λv=>x _ _ (E.c v)⟩
theorem Cq.all(h:Cq a b i j l x y):∀ o∈l,i<=o.i1/\o.i1<=o.i2/\o.i2<=x:=by
 induction h with
 |nil=>exact λq h=>ca h cx
 |eq g m h d=>
  intro o c
  rcases du.mp c with e |c
  ·exact rwL e ⟨Int.le_refl _,gV _ g,h.le.1⟩
  ·exact zzI2 0x142445b2b0aba8216aa4216cac2aea085aa8a400851e803d087 [k,i_1,o.i1,o.i2,x_1] ⋯ g (d o c)
 |ch k f n h d=>
  intro o c
  rcases du.mp c with e |c
  ·exact rwL e ⟨Int.le_refl _,f,h.le.1⟩
  ·exact zzI2 0x509116cac2aea085aa8085b2b0aba8216aa42147a68087 [i_1,i',o.i1,o.i2,x_1] ⋯ f (d o c)
def dF(ra rS rC rR:Nat):aq (Str×V):=[("base",.ref ra),("sides",.ref rS),("codes",.ref rC),("reach",.ref rR)]
theorem qE(f:cw->V)(a:lo x=ao (.ref r))(h:H[r]? =ao (.list [f aL,f be]))(b:Evv E lo H (nv (wN v))):Evv (aA aQ (eN x) E) lo H (f v):=by
 cases v<;>exact (PS.idx a h b)
theorem zI(q:P ([nv (wN aL),nv (wN be)],0) H):iT (aY (esC (eK (.int 0)) (esC (eK (.int 1)) esN))) lo H P:=show aY (esC (eK (.int 0)) (esC (eK (.int 1)) esN)) lo H _ from cT (aO (cB (aO (cB (bL ⟨(show 2<100 by decide),Lf.mk rfl q⟩)))))
theorem due0{b:cw->aq Int}(E:Ew H a ra rS rC rR s c b l n)(d:Good a b l n)(F:Fs (dF ra rS rC rR) lo)(k:∀ {H':MH}{m:cw->Nat},Hx H H'->H'[H.length]? =ao (.list [.ref (m aL),.ref (m be)])->(∀ v,H'[m v]? =ao (.list (mrk (2*a.length+1) (mkd (n v) a.length (chg (l v))))))->K .next (upd lo "marks" (.ref H.length)) H'):nF X lo H K:=by
 refine cC (j7 (λv=>nv (wN v)) (λv r G=>G[r]? =ao (.list (mrk (2*a.length+1) (mkd (n v) a.length (chg (l v)))))) (λq=>zI q) (F.hide ⋯) ⋯ (λ{v z H1 R} g f w j u=>?_) λ{r0 p H'} x h t=>k (m:=λv=>bif v then p else r0) x h λv=>?_)
 ·have e:=E.hx w
  refine b6 (aO (qE (λv=>.ref (c v)) (f _ (.ref rC) ⋯) e.hC (.n g) _ (aO (qE (λv=>.int (n v)) (f _ (.ref rR) ⋯) e.hR (.n g) _ (aO (jU (f _ (.ref ra) ⋯) e.ha (by rw[bq];exact Y329 d.al) _ (bL ?_)))))))
  rw[bq]
  exact aE5 X (e.c v) (Y252 d.al) (d.n v).1 (d.n v).2 (λo i=>((d.k v).cq.all o i)) λ{D r} B y f2=>u B λG A=>A _ _ (h8 j (qP f2)) y
 ·have:=t H' (Ag.refl _ _)
  cases v
  ·exact this.1
  ·exact this.2
theorem LL.ag{rc:Nat}(D:LL H rc ps)(b:n<rc)(c:Ag n H G):LL G rc ps:=⟨c _ _ b D.h,λp a=>⟨c _ _ (kq b (D.d p a).2) (D.d p a).1,(D.d p a).2⟩⟩
theorem due1{b:cw->aq Int}(E:Ew H a ra rS rC rR s c b l n)(g:Good a b l n)(F:Fs (dF ra rS rC rR) lo)(k:∀ {H':MH}{m:cw->Nat}{ps:cw->aq (Nat×aq Int)},Hx H H'->H'[H.length]? =ao (.list [.ref (m aL),.ref (m be)])->(∀ v,LL H' (m v) (ps v)/\(ps v).map Prod.snd=(List.range (2*a.length+1)).map (cel a (b v) (chg (l v))))->K .next (upd lo "cells" (.ref H.length)) H'):nD X lo H K:=by
 refine cC (j7 (λv=>nv (wN v)) (λv r G=>∃ ps,LL G r ps/\ps.map Prod.snd=(List.range (2*a.length+1)).map (cel a (b v) (chg (l v)))) (λq=>zI q) (F.hide ⋯) ⋯ (λ{v y H1 R} i f w o u=>?_) λ{r0 p H'} x h t=>?_)
 ·have d:=E.hx w
  exact b6 (aO (qE (λv=>.ref (c v)) (f _ (.ref rC) ⋯) d.hC (.n i) _ (aO (aR (f _ (.ref ra) ⋯) (aO (qE (λv=>.ref (s v)) (f _ (.ref rS) ⋯) d.hS (.n i) _ (bL (aHk X (d.c v) d.ha (d.s v) (Y252 g.al) (Y252 (g.bl v)) (g.k v) λ{I r ps} B D e f2=>u B λG A=>⟨ps,D.ag (h8 o (qP f2)) A,e⟩))))))))
 ·obtain⟨⟨p0,j⟩,⟨p1,z⟩⟩:=t H' (Ag.refl _ _)
  exact k (m:=λv=>bif v then p else r0) (ps:=λv=>bif v then p1 else p0) x h λv=>by
   cases v
   ·exact j
   ·exact z
theorem or_i{m:cw->Nat}{f:cw->Nat->cw}(n:LI H ra a)(al:a.length<64)(l:2*a.length+1=N)(F:Fs [("base",.ref ra),("marks",.ref rM)] lo)(s:H[rM]? =ao (.list [.ref (m aL),.ref (m be)]))(u:∀ v,H[m v]? =ao (.list (mrk N (f v))))(k:∀ {H'},Hx H H'->H'[H.length]? =ao (.list (mrk N λp=>f aL p || f be p))->Q (.ref H.length) H'):orC (C:=C) lo H Q:=by
 subst l
 have o:Evv (aA aP (aA d3 (eK (.int 2)) (aI bQ (esC (eN "base") esN))) (eK (.int 1))) lo H (.int (2*a.length+1:Nat)):=by
  have e:=Evv.bin (Evv.bin (.k (v:=.int 2)) (jU (F "base" (.ref ra) ⋯) n (by rw[bq];exact Y329 al)) (jQ (by decide))) (.k (v:=.int 1)) kB
  rw[bq]at e
  exact e
 refine f7 nv (λp=>[V.bool (f aL p || f be p)]) (Fs [("base",.ref ra),("marks",.ref rM)]) (List.range (2*a.length+1)) (λq=>aF3 ⟨Y207,zzM1 0xb7b0ca0f41f6807da02f8010008283d07da00007 [a.length] ⋯ al⟩ o (by rw[fo];exact q)) (by rw[<-lU];exact iH _ _) (F.hide ⋯) (by rw[jX,bq,hB];exact zzM1 0xb7b0ca0f41f41f680be00000283d07da00007 [a.length] ⋯ al) (λp t=>(oH (J:=λlo=>lo "place" =ao (nv p)/\Fs [("base",.ref ra),("marks",.ref rM)] lo) (aH H) (λi q=>q ⟨bK,i.up ⋯⟩ (i.up ⋯)) ⟨λ{d H1 acc Q} i b c q=>?_⟩)) λx h=>k x (by rw[h,jX];rfl)
 have g:∀ v:cw,∀ {R:EK},R (.bool (f v p)) H1->aA aQ (aA aQ (eN "marks") (eK (nv (wN v)))) (eN "place") d H1 R:=λv R r=>bE (qE (λv=>.ref (m v)) (i.2 "marks" (.ref rM) ⋯) (b _ _ s) .k _ (aR i.1 (zB (b _ _ (u v)) (aE0 (m0.mp t)) (by exact rwL dL (Y326 al)) r)))
 refine g aL (Lf.mk rfl ?_)
 cases j:f aL p with
 |true=>exact bH ((j▸q) b c)
 |false=>exact bC (g be ((j▸q) b c))
structure Dk(B:MH)(a:aq Int)(ra rS rC rR rM rK:Nat)(s c m kc:cw->Nat)(b:cw->aq Int)(l:cw->aq Op)(n:cw->Int)(ps:cw->aq (Nat×aq Int))(Lg:cw->aq (Nat×Nat)):Prop where
 E:Ew B a ra rS rC rR s c b l n
 G:Good a b l n
 hM:B[rM]? =ao (.list [.ref (m aL),.ref (m be)])
 hm:∀ v,B[m v]? =ao (.list (mrk (2*a.length+1) (mkd (n v) a.length (chg (l v)))))
 hK:B[rK]? =ao (.list [.ref (kc aL),.ref (kc be)])
 hk:∀ v,LL B (kc v) (ps v)/\(ps v).map Prod.snd=(List.range (2*a.length+1)).map (cel a (b v) (chg (l v)))
 sp:∀ v,Spt (2*a.length+1) (Lg v)
 mr:∀ v k,k<2*a.length+1->(mkd (n v) a.length (chg (l v)) k=be↔∃ p∈Lg v,p.1<=k/\k<=p.2)
 Ll:∀ v,(Lg v).length<1000
theorem Dk.hx{b:cw->aq Int}(D:Dk B a ra rS rC rR rM rK s c m kc b l n ps Lg)(x:Hx B H):Dk H a ra rS rC rR rM rK s c m kc b l n ps Lg:=⟨D.E.hx x,D.G,x _ _ D.hM,λv=>x _ _ (D.hm v),x _ _ D.hK,λv=>⟨(D.hk v).1.hx x,(D.hk v).2⟩,D.sp,D.mr,D.Ll⟩
def dSG(ra rS rC rR rM rK rr e:Nat):aq (Str×V):=("seen",nv e)::("rows",.ref rr)::("cells",.ref rK)::("marks",.ref rM)::dF ra rS rC rR
def dSH(ra rS rC rR rM rK rr e:Nat)(p:Nat×Nat):aq (Str×V):=("end",nv p.2)::("begin",nv p.1)::dSG ra rS rC rR rM rK rr e
def tBE:AF:=b3 2 (asC (aN "begin") (asC (aN "end") asN))
theorem txE_i{b:cw->aq Int}(D:Dk H a ra rS rC rR rM rK s c m kc b l n ps Lg)(F:Fs (dSH ra rS rC rR rM rK rr e p) lo)(o:p.1<=p.2/\p.2<2*a.length+1)(k:∀ {r0 r1 H'},Hx H H'->H'[H.length]? =ao (.list [.ref r0,.ref r1])->(∀ G,Ag H.length H' G->G[r0]? =ao (.list (iV (cat (cel a (b aL) (chg (l aL))) p.1 (p.2+1-p.1))))/\G[r1]? =ao (.list (iV (cat (cel a (b be) (chg (l be))) p.1 (p.2+1-p.1)))))->Q (.ref H.length) H'):txE (C:=C) lo H Q:=by
 refine j7 (λv=>nv (wN v)) (λv r G=>G[r]? =ao (.list (iV (cat (cel a (b v) (chg (l v))) p.1 (p.2+1-p.1))))) (λq=>zI q) (F.hide ⋯) ⋯ (λ{v L H1 R} A t y E K=>?_) k
 obtain⟨D2,u⟩:=(D.hx y).hk v
 refine eP (qE (λv=>.ref (kc v)) (t _ (.ref rK) ⋯) (D.hx y).hK (.n A) _ (aR (t _ (nv p.1) ⋯) (Evv.bin (.n (t _ (nv p.2) ⋯)) .k kB _ (cB (Lf.mk rfl (Lf.mk rfl (Lf.mk rfl (gK (aG D2.h) (by rw[bq];exact zzM2 0x4b7b0ca0f41f6900007da02f80a411c283d07da00007 [a.length,(ps v).length] ⋯ D.G.al (yA u)) (by decide) (rwL (show (p.2:Int)+1=((p.2+1:Nat):Int) by exact Y28) (rwL ((by
  intro α l i j x g
  rw[jL]
  show(l.drop (m3 l.length (i:Int))).take (m3 l.length (j:Int)-m3 l.length (i:Int))=_
  rw[mA Y13 (Y240 g),mA Y13 (Y321 x g),fo,fo]:∀{α:Type}{l:aq α}{i j:Nat}(x:i<=j)(g:j<=l.length),pk l (ao (i:Int)) (ao (j:Int)) none=(l.drop i).take (j-i)) (zzM1 0x907da40a0007da82f8007da40029a00147 [p.fst,p.snd,a.length] ⋯ o) (by rw[bq];exact zzM2 0x14ab07da40001f6a0be02b04707da82f8007da40029a00147 [p.fst,p.snd,a.length,(ps v).length] ⋯ o (yA u))) (rwR List.map_drop (rwR List.map_take ?_))))))))))))
 have w:Hx H1 (H1++[.list ((((ps v).drop p.1).take (p.2+1-p.1)).map rv)]):=.app _ _
 have g:=aU H1 (MO.list ((((ps v).drop p.1).take (p.2+1-p.1)).map rv))
 have cl:((((ps v).drop p.1).take (p.2+1-p.1)).map Prod.snd).flatten=cat (cel a (b v) (chg (l v))) p.1 (p.2+1-p.1):=by
  rw[List.map_take,List.map_drop,u,(by
   exact λ{f N}=>λ{m}=>by
     induction m with
     |zero=>exact λS=>rfl
     |succ m J=>
      intro p h
      have I:p<((List.range N).map f).length:=by rw[bq,hB];exact zzM1 0x16a07da0002a07da40a00007 [p,m,N] ⋯ h
      rw[j8,List.drop_eq_getElem_cons I,List.take_succ_cons,jq,J (Y291 h),oq,List.getElem_range]:∀{f:Nat->aq Int}{N:Nat},∀ {m p:Nat},p+m<=N->((((List.range N).map f).drop p).take m).flatten=cat f p m) (zzM1 0x9481f6a0be02807da4006800007da82f8007da40029a00147 [p.fst,p.snd,a.length] ⋯ o)]
 refine Lf.mk rfl ⟨⟨_,aG g⟩,cat_at (((ps v).drop p.1).take (p.2+1-p.1)) (f6 (aG g) _ 0 rfl) (λq B=>w _ _ (D2.d q (List.mem_of_mem_drop (List.mem_of_mem_take B))).1) ?_ λ{P} z M=>K (w.trans z) λG O=>O _ _ (h8 E w.ln) (by exact rwR cl M)⟩
 rw[cl]
 have:=cu List.length ((by
  intro b l c
  have:=y5 c.cq rfl rfl (Int.le_refl 0) (Int.le_refl _) (Int.le_refl _)
  rw[Nat.sub_zero]at this
  rw[show (0:Nat)=2*0 from rfl,this,xP];rfl:∀{b:aq Int}{l:aq Op}(c:Cod a b none 0 0 l),cat (cel a b (chg l)) 0 (2*a.length+1)=b) (D.G.k v))
 rw[show 2*a.length+1=p.1+(p.2+1-p.1)+(2*a.length-p.2) by exact zzM1 0x122448944a10429a82f81a01f69001a00001f6a0be00107da82f8007da40029a00147 [p.fst,p.snd,a.length] ⋯ o,kJ,kJ,bx,bx,Nat.zero_add]at this
 exact Y334 this (D.G.bl v)
theorem tdE_i{b:cw->aq Int}(D:Dk H a ra rS rC rR rM rK s c m kc b l n ps Lg)(F:Fs (dSH ra rS rC rR rM rK rr e p) lo)(k:∀ {r0 r1 H'},Hx H H'->H'[H.length]? =ao (.list [.ref r0,.ref r1])->(∀ G,Ag H.length H' G->rd G 4 (.ref r0)=ao (.list ((dR same a (l aL) (Lg aL) p.1 p.2).map reD))/\rd G 4 (.ref r1)=ao (.list ((dR same a (l be) (Lg be) p.1 p.2).map reD)))->Q (.ref H.length) H'):tdE X lo H Q:=by
 refine j7 (λv=>nv (wN v)) (λv r G=>rd G 4 (.ref r)=ao (.list ((dR same a (l v) (Lg v) p.1 p.2).map reD))) (λq=>zI q) (F.hide ⋯) ⋯ (λ{v x H1 R} f d w j u=>?_) k
 have D1:=D.hx w
 exact b6 (aO (qE (λv=>.ref (c v)) (d _ (.ref rC) ⋯) D1.E.hC (.n f) _ (aO (qE (λv=>.ref (m v)) (d _ (.ref rM) ⋯) D1.hM (.n f) _ (aO (aR (d _ (.ref ra) ⋯) (aO (aR (d _ (nv p.1) ⋯) (aO (aR (d _ (nv p.2) ⋯) (bL (aH7 X (D1.E.c v) (D1.hm v) D1.E.ha (D.G.ll v) (Y252 D.G.al) (Y326 D.G.al) (aBt (D.sp v) (D.mr v)) (aBg (D.sp v) (D.mr v)) (λq A=>(zzM1 0x526a0bea40a6800507da82f8007da40029a00147 [q.fst,q.snd,a.length] ⋯ ((D.sp v).b q A))) (Y333 (D.Ll v)) λ{B r} z t f2 I=>u z λG y=>t G λi o g h=>y i o (h8 j g) h))))))))))))
def rwsD(a:aq Int)(b:cw->aq Int)(l:cw->aq Op)(Lg:cw->aq (Nat×Nat))(q:aq (Nat×Nat))(e:Nat):aq Rw:=vN a (cel a (b aL) (chg (l aL))) (cel a (b be) (chg (l be))) (dR same a (l aL) (Lg aL)) (dR same a (l be) (Lg be)) q e
inductive DJ(B:MH)(a:aq Int)(ra rS rC rR rM rK rr r2:Nat)(b:cw->aq Int)(l:cw->aq Op)(Lg:cw->aq (Nat×Nat))(L:aq (Nat×Nat))(rest:aq V)(lo:Lo)(H:MH):Prop
 |mk {done q:aq (Nat×Nat)}{ws:aq Rv}{e:Nat} (er:rest=q.map pN) (el:done++q=L) (F:Fs (dSG ra rS rC rR rM rK rr e) lo) (hx:Hx B H) (rl:RL H rr ws) (h2:H[r2]? =ao (.list (L.map pN))) (eq:ws.map Rv.w++rwsD a b l Lg q e=rwsD a b l Lg L 0) (eL:qB q e=qB L 0) (ea:e<=a.length) (eh:∀ p∈q,2*e<=p.1) (wl:ws.length+q.length<=L.length):DJ B a ra rS rC rR rM rK rr r2 b l Lg L rest lo H
theorem aKj{b:cw->aq Int}(D:Dk B a ra rS rC rR rM rK s c m kc b l n ps Lg)(hb:B[rr]? =none)(S:Spt (2*a.length+1) L)(Ll:L.length<10000)(I:DJ B a ra rS rC rR rM rK rr r2 b l Lg L (v::u) lo H)(n2:r2≠rr)(go:GoK (DJ B a ra rS rC rR rM rK rr r2 b l Lg L u) Q K):tBE v lo H λlo1 H1=>dBody X lo1 H1 K:=by
 cases I with
 | @mk done q ws e er Z F hx rl h2 eq eL ea eh wl=>
 cases q with
 |nil=>cases er
 |cons p q=>
 cases er
 have W:(done++[p])++q=L:=by rw[cz];exact Z
 have x:=S.b p (Z▸jx _ ce)
 have DH:=D.hx hx
 rw[e6]at wl
 refine (by exact λ{p R} q=>kch (B:=(2=2/\R (upd (upd lo "begin" (nv p.1)) "end" (nv p.2)) H)) ⋯ ⟨rfl,q⟩:∀{p:Nat×Nat}{R:Lo->MH->Prop}(q:R (upd (upd lo "begin" (nv p.1)) "end" (nv p.2)) H),tBE (pN p) lo H R) ?_
 have N:=(F.cons "begin" (nv p.1)).cons "end" (nv p.2)
 generalize upd (upd lo "begin" (nv p.1)) "end" (nv p.2)=lo1 at N
 refine aJ (cC (txE_i DH N x λ{t0 t1 P} T ht tt=>aS (aJ (cC ?_))))
 have F2:=N.cons "texts" (.ref H.length)
 have A:Fs (dSH ra rS rC rR rM rK rr e p) (upd lo1 "texts" (.ref H.length)):=N.up ⋯
 generalize upd lo1 "texts" (.ref H.length)=Y at F2 A
 refine tdE_i X (DH.hx T) A λ{d0 d1 t} x3 hd td=>aS (aJ ?_)
 have f:=F2.cons "told" (.ref P.length)
 generalize upd Y "told" (.ref P.length)=ae at f
 have g:=T.trans x3
 have D3:=DH.hx g
 have j:=rl.hx g
 have U:=fK rl.h
 refine uY (f _ (.ref rr) ⋯) j.h (cT (aO (eP (aR (f _ (.ref ra) ⋯) (aR (f _ (nv e) ⋯) (Evv.bin (Evv.n (f _ (nv p.1) ⋯)) .k (l8 (by decide)) _ (cB (Lf.mk rfl (Lf.mk rfl (Lf.mk rfl (gK D3.E.ha (by rw[bq];exact Y303 D.G.al) (by decide) (rwL (show ((p.1:Nat):Int)/2=((p.1/2:Nat):Int) from rfl) (rwL (m9 Y13 (Y346 (eh p ce) zzD zzE) (Y345 x zzD zzE)) ?_)))))))))))))
 have x4:Hx t (t++[.list ((sl a e ((p.1/2:Nat):Int)).map V.int)]):=.app _ _
 have r:=aU t (MO.list ((sl a e ((p.1/2:Nat):Int)).map V.int))
 refine aO (eP (aR (f _ (.ref ra) ⋯) (Evv.bin (Evv.n (f _ (nv p.1) ⋯)) .k (l8 (by decide)) _ (Evv.bin (Evv.n (f _ (nv p.2) ⋯)) .k (l8 (by decide)) _ (cB (Lf.mk rfl (Lf.mk rfl (Lf.mk rfl (gK (x4.li D3.E.ha) (by rw[bq];exact Y303 D.G.al) (by decide) (rwL (show ((p.1:Nat):Int)/2=((p.1/2:Nat):Int) from rfl) (rwL (show ((p.2:Nat):Int)/2=((p.2/2:Nat):Int) from rfl) (rwL (m9 Y13 (Y344 x zzD zzE zzD zzE) (Y343 x zzD zzE)) ?_))))))))))))
 have x5:Hx (t++[MO.list ((sl a e ((p.1/2:Nat):Int)).map V.int)]) (t++[MO.list ((sl a e ((p.1/2:Nat):Int)).map V.int)]++[.list ((sl a ((p.1/2:Nat):Int) ((p.2/2:Nat):Int)).map V.int)]):=.app _ _
 have w:=aU (t++[MO.list ((sl a e ((p.1/2:Nat):Int)).map V.int)]) (MO.list ((sl a ((p.1/2:Nat):Int) ((p.2/2:Nat):Int)).map V.int))
 have J:=x5 _ _ r
 have O:=fK j.h
 have n3:=fK (x4 _ _ j.h)
 have d:=x4.trans x5
 revert J w O n3 d
 generalize (t++[MO.list ((sl a e ((p.1/2:Nat):Int)).map V.int)]).length=s2
 generalize t.length=s1
 generalize t++[MO.list ((sl a e ((p.1/2:Nat):Int)).map V.int)]++[MO.list ((sl a ((p.1/2:Nat):Int) ((p.2/2:Nat):Int)).map V.int)]=H5
 intro w r O n3 d
 have z:=j.hx d
 have o:∀ {i:Nat}{m:MO},rr<i->H5[i]? =ao m->(Off rr H5)[i]? =ao m:=λhi h=>iE h (gq hi)
 obtain⟨a0,a1⟩:=tt _ (λi m hi h=>o (kq U hi) (d _ _ (x3 _ _ h)))
 obtain⟨b0,b1⟩:=td _ (λi m hi h=>o (h8 U (Nat.le_of_lt (ec T.ln hi))) (d _ _ h))
 have M:=o U (d _ _ (x3 _ _ ht))
 refine aO (aR (f _ (.ref H.length) ⋯) (aO (aR (f _ (.ref P.length) ⋯) (bL ⟨(show 4<100 by decide),qY z.h (by rw[bq];exact zzM2 0x55ec3283d07da4002807da80a40007278c3d07da00007 [L.length,ws.length,q.length] ⋯ Ll wl) (aS (aJ (cC (Evv.bin (Evv.n (f _ (nv p.2) ⋯)) .k (l8 (by decide)) _ (aS (go.nx (.mk rfl W (rwL (show ((p.2:Nat):Int)/2=((p.2/2:Nat):Int) from rfl) ((f.cons "seen" (nv (p.2/2))).re _ ⋯)) ((hx.trans (g.trans d)).set hb) (z.put (⟨o O r,M,a0,a1,aD6 (aG (o O r)) (aG (o n3 w)) (aG M) (aG a0) (aG a1) (aG (o (h8 U T.ln) (d _ _ hd))) b0 b1⟩:nW (Off rr H5) ⟨rowD a (cel a (b aL) (chg (l aL))) (cel a (b be) (chg (l be))) (dR same a (l aL) (Lg aL)) (dR same a (l be) (Lg be)) e p,s1,s2,H.length,P.length,t0,t1⟩)) (aE (d _ _ (g _ _ h2)) n2.symm) ?_ eL (Y341 x zzD zzE) (λy hy=>by exact Y340 (((c3.mp ((List.pairwise_append.mp (Z▸S.p)).2.1)).1) y hy) zzD zzE) (by exact rwL bx (rwL e8 (Y291 wl))))))))))⟩))))
 ·rw[dv,cz]
  exact eq
theorem due_ok{b:cw->aq Int}(E:Ew H a ra rS rC rR s c b l n)(G:Good a b l n)(S:Spt (2*a.length+1) L)(Ll:L.length<10000)(mk:∀ k,k<2*a.length+1->((mkd (n aL) a.length (chg (l aL)) k || mkd (n be) a.length (chg (l be)) k)=be↔∃ p∈L,p.1<=k/\k<=p.2))(sp:∀ v,Spt (2*a.length+1) (Lg v))(Y:∀ v k,k<2*a.length+1->(mkd (n v) a.length (chg (l v)) k=be↔∃ p∈Lg v,p.1<=k/\k<=p.2))(A:∀ v,(Lg v).length<1000)(k:∀ {H':MH}{r r2:Nat}{ws:aq Rv},Hx H H'->RL H' r ws->ws.map Rv.w=rwsD a b l Lg L 0->H'[r2]? =ao (.list (iV (sl a (qB L 0:Nat) a.length)))->R (.tup [.ref r,.ref r2]) H'):mS X [.ref ra,.ref rS,.ref rC,.ref rR] H R:=by
 refine⟨rfl,?_⟩
 have F:Fs [("reach",.ref rR),("codes",.ref rC),("sides",.ref rS),("base",.ref ra)] (loB ["base","sides","codes","reach"] [.ref ra,.ref rS,.ref rC,.ref rR] lo0):=(((Fs.cons (l:=[]) nofun "base" (.ref ra)).cons "sides" (.ref rS)).cons "codes" (.ref rC)).cons "reach" (.ref rR)
 refine(?_:mQ X (loB ["base","sides","codes","reach"] [.ref ra,.ref rS,.ref rC,.ref rR] lo0) H (jJ R))
 revert F
 generalize loB ["base","sides","codes","reach"] [.ref ra,.ref rS,.ref rC,.ref rR] lo0=lo
 intro F
 have al:=G.al
 refine aJ (due0 X E G (F.re _ ⋯) λ{H1 m} J hM hm=>aS (aJ ?_))
 have u:=F.cons "marks" (.ref H.length)
 generalize upd lo "marks" (.ref H.length)=z at u
 refine due1 X (E.hx J) G (u.re _ ⋯) λ{d kc ps} i hK hk=>aS (aJ ?_)
 have t:=u.cons "cells" (.ref H1.length)
 generalize upd z "cells" (.ref H1.length)=f at t
 have D:Dk d a ra rS rC rR H.length H1.length s c m kc b l n ps Lg:=⟨E.hx (J.trans i),G,i _ _ hM,λv=>i _ _ (hm v),hK,hk,sp,Y,A⟩
 generalize H.length=rM at D t
 generalize H1.length=Q at D t
 refine kG (cT (aO (iF (aO (cB (bL ⟨(show 2<100 by decide),Lf.mk rfl ⟨rfl,Lf.mk (p:=upd (upd f "seen" (nv 0)) "rows" (.ref d.length)) ⋯ (aS (aJ ?_))⟩⟩))))))
 have j:=(t.cons "seen" (nv 0)).cons "rows" (.ref d.length)
 have f2:=aH d
 have o:Hx d (d++[MO.list []]):=.app _ _
 have g:=RL.new (H:=d)
 revert j f2 o g
 generalize upd (upd f "seen" (nv 0)) "rows" (.ref d.length)=T
 generalize d.length=rr
 generalize d++[MO.list []]=H3
 intro j f2 o g
 have y:=D.hx o
 refine gU (b6 (aO (or_i y.E.ha al rfl (j.re _ ⋯) y.hM y.hm λ{H4} x W=>bL (zT X W (Y326 al) (aBt S mk) (aBg S mk) λ{H5 r2} N K f5=>Lf.mk rfl ⟨⟨_,aG K⟩,⟨_,dJ (DJ d a ra rS rC rR rM Q rr r2 b l Lg L) (λI=>?_) (λI=>?_) (λI go=>aKj X D f2 S Ll I ?_ go) _ 0 rfl (.mk (done:=[]) rfl rfl (j.re _ ⋯) (o.trans (x.trans N)) (g.hx (x.trans N)) K rfl rfl (hN _) (λ_ _=>hN _) (by rw[ly,Nat.zero_add];exact c5 _))⟩⟩))))
 ·cases I with
  |mk P U F B M O=>exact aG O
 ·cases I with
  | @mk done q ws e P U F B M O eq V Z eh wl=>
   cases jc.mp P.symm
   exact aS (aJ (jH (cT (aO (aR (F _ (.ref rr) ⋯) (aO (eP (aR (F _ (.ref ra) ⋯) (aR (F _ (nv e) ⋯) (cB (cB (Lf.mk rfl (Lf.mk rfl (Lf.mk rfl (gK ((D.hx B).E.ha) (by rw[bq];exact Y303 al) (by decide) (rwL (aEh Z) (bL ⟨(show 2<100 by decide),(V▸k) ((J.trans i).trans (B.trans (.app _ _))) (M.hx (.app _ _)) (rwR eq ((c6 _).symm)) (aU _ _)⟩)))))))))))))))))
 ·exact λq=>Nat.lt_irrefl _ (h8 (fK (x _ _ g.h)) (q▸qP f5))
theorem aJ2:∀ {l:aq Hu}{s:Nat},l.Pairwise (λh h'=>h.hi<h'.lo)->(∀ h∈l,s<=h.lo/\h.lo<=h.hi/\h.hi<=z)->l.length+s<=z+1\/l= []:=λ{l}=>by
 induction l with
 |nil=>exact λd d=>.inr rfl
 |cons h r c=>
  intro s P b
  have P:=c3.mp P
  refine .inl ?_
  rcases c P.2 (λg a=>by exact zzM2 0x284886cac0ae9005a41f6800016cac0ae9005a6a0051e907da00007 [h.hi,g.lo,s,g.hi,z] ⋯ (P.1 g a) (b g (b4 _ a))) with q |q
  ·exact rwL e6 (Y353 (b h ce) q)
  ·exact rwL q (rwL e8 (zzM1 0x1541f6b02807d000aea02aa40169a00147 [s,h.lo,h.hi,z] ⋯ (b h ce)))
structure xB(a b:aq Int)(n:Int)(w:cw)(l:aq Op):Prop where
 c:Cod a b none 0 0 l
 S:Side same a b n w l (groups n l)
 gl:(groups n l).length<=a.length+1
 gn:∀ g∈groups n l,g.length<1000
theorem xB.of(n0:0<=n)(O:Ops a b l)(al:a.length<64)(w:cw):xB a b n w l:=by
 have c:=O.cod
 have S:=Side.of zR (w:=w) n0 c
 refine⟨c,S,?_,λg e=>?_⟩
 ·rcases aJ2 S.X.p (λh f=>⟨hN _,S.X.b h f⟩) with q |q
  ·rw[bq]at q;exact zzM1 0x507da40a0007da4003da00007 [(groups n l).length,a.length] ⋯ q
  ·have:=cu List.length q
   rw[bq,ly]at this;exact zzM1 0x241f69028000f68047 [(groups n l).length,a.length] ⋯ this
 ·have d:(chg g).length<=(chg (groups n l).flatten).length:=by
   delta chg
   exact((List.sublist_flatten_of_mem e).filter _).length_le
  exact Y349 ((Gp.of n0 c).each zR S.G g e) (O.len al) ((Gp.of n0 c).flat▸d) (gM ..)
theorem kv_lt(g:z<1000)(f:x.h.lo<=x.h.hi/\x.h.hi<=z)(e:y.h.lo<=y.h.hi/\y.h.hi<=z)(h:kv x<kv y):x.vv.lt y.vv=ao be:=by
 unfold kv ky at h
 show mO [nv x.h.lo,nv x.h.hi,.int (bif x.h.w then 1 else 0),.ref x.n,x.v] [nv y.h.lo,nv y.h.hi,.int (bif y.h.w then 1 else 0),.ref y.n,y.v]=_
 have w2:=bit1 y.h.w
 delta nv
 rw[mM]
 by_cases a:x.h.lo=y.h.lo
 ·rw[a,bp rfl,f4,mM]
  by_cases b:x.h.hi=y.h.hi
  ·rw[b,bp rfl,f4,mM]
   cases d:x.h.w with
   |false=>cases c:y.h.w with
    |false=>rw[d,c,a,b]at h;exact ca h (jm _)
    |true=>rfl
   |true=>cases c:y.h.w with
    |false=>
     rw[d,c,a,b]at h
     exact(Y348 h).elim
    |true=>rw[d,c,a,b]at h;exact ca h (jm _)
  ·rw[bw (Y347 b),ik]
   exact cu ao (bp (by omega))
 ·rw[bw (Y347 a),ik]
  exact cu ao (bp (by omega))
def vvD(h:Hu):iq:=.tuple [.int h.lo,.int h.hi,.int (bif h.w then 1 else 0),.list (h.new.map dI),reD h.r]
theorem vv_rd{x:Hv}(a:H[x.n]? =ao (.list (iV x.h.new)))(b:rd H 3 x.v=ao (reD x.h.r)):rd H 4 x.vv=ao (vvD x.h):=by
 show(([nv x.h.lo,nv x.h.hi,.int (bif x.h.w then 1 else 0),.ref x.n,x.v].mapM (rd H 3)).map PyData.tuple)=_
 refine rwL fe (rwL fe (rwL fe (rwL fe (rwL fe (rwL (iD 2 (aG a)) (rwL b ?_))))));rfl
theorem r7(e:z<1000){S:aq Hv}(h:H[r]? =ao (.list (L.map Hv.vv)))(a:S.Perm L)(f:S.Pairwise λx y=>kv x<kv y)(b:∀ x∈L,x.h.lo<=x.h.hi/\x.h.hi<=z)(c:L.length<64)(k:Q (.ref H.length) (H++[.list (S.map Hv.vv)])):kK [.ref r] H Q:=Lf.mk (aG h) ⟨by rw[bq];exact c,λv d=>by
  obtain⟨x,_,rfl⟩:=gw.mp d
  rfl,S.map Hv.vv,a.map _,ja.mpr ((List.Pairwise.and_mem.mp f).imp λ{x y} q=>kv_lt e (b x (a.mem_iff.mp q.1)) (b y (a.mem_iff.mp q.2.1)) q.2.2),k⟩
theorem law_1(hs:lo "script" =ao (.ref rs))(h:LI H rs a)(k:∀ {H'},Hx H H'->H'[H.length]? =ao (.list [.int ((1+a.sum)%3),.int (a.sum/3%3)])->K .next (upd lo "reach" (.ref H.length)) H'):aBd X lo H K:=by
 exact cC (wV (Evv.bin (Evv.bin .k (λQ q=>b6 (aO (aR hs (bL (sum_i h q))))) kB) .k (aAg (by decide)) _ (Evv.bin (Evv.bin (λQ q=>b6 (aO (aR hs (bL (sum_i h q))))) .k (l8 (by decide))) .k (aAg (by decide)) _ (pX (k (.app _ _) (aU _ _))))))
def gLF(ra:Nat)(s:cw->Nat):aq (Str×V):=[("base",.ref ra),("ours",.ref (s aL)),("theirs",.ref (s be))]
theorem law_5{b:cw->aq Int}(F:Fs (gLF ra s) lo)(w:LI H ra a)(hs:∀ v,LI H (s v) (b v))(al:a.length<64)(p:∀ v,(b v).length<64)(k:∀ {H':MH}{c:cw->Nat}{l:cw->aq Op},Hx H H'->H'[H.length]? =ao (.list [.ref (c aL),.ref (c be)])->(∀ v,Ops a (b v) (l v)/\H'[c v]? =ao (.list ((l v).map Op.v)))->K .next (upd lo "codes" (.ref H.length)) H'):aA9 X lo H K:=by
 refine cC (j7 (λv=>.ref (s v)) (λv r G=>∃ l,Ops a (b v) l/\G[r]? =ao (.list (l.map Op.v))) (λq=>show aY (esC (eN "ours") (esC (eN "theirs") esN)) lo H _ from cT (aO (aR (F _ (.ref (s aL)) ⋯) (aO (aR (F _ (.ref (s be)) ⋯) (bL ⟨(show 2<100 by decide),Lf.mk rfl q⟩)))))) (F.hide ⋯) ⋯ (λ{v d H1 R} z n g B I=>?_) λ{r0 D H'} x h t=>?_)
 ·refine(show fR (bU X) (aI X.c_SM (esC (eK .none) (esC (eN "base") (esC (eN "side") esN)))) esN d H1 _ from b6 (aO (cB (aO (aR (n _ (.ref ra) ⋯) (aO (aR z (bL (aHy X (g.li w) (g.li (hs v)) (Y254 al) (Y254 (p v)) λ{T rd M N m f} j S=>Lf.mk rfl ⟨⟨_,S.o⟩,bL (pW X S ⋯ ⋯ (Y254 al) (λr h=>ec h.len al) λ{U r l} y P Q J O=>I (λi m e=>y i m (pn (fK e)) (j _ _ e)) λG L=>⟨l,O,L _ _ (h8 B j.ln) J⟩)⟩)))))))))
 ·obtain⟨⟨l0,A⟩,⟨E,u⟩⟩:=t H' (Ag.refl _ _)
  exact k (c:=λv=>bif v then D else r0) (l:=λv=>bif v then E else l0) x h λv=>by
   cases v
   ·exact A
   ·exact u
def HvS(H:MH)(L:aq Hv):Prop:=∀ x∈L,H[x.n]? =ao (.list (iV x.h.new))/\rd H 3 x.v=ao (reD x.h.r)
theorem HvS.hx(h:HvS H L)(x:Hx H H'):HvS H' L:=λy a=>⟨x _ _ (h y a).1,lT x.lx (h y a).2⟩
theorem law_6{b:cw->aq Int}{l:cw->aq Op}{n:cw->Int}(F:Fs (("reach",.ref rR)::gLF ra s) lo)(f:H[rR]? =ao (.list [.int (n aL),.int (n be)]))(i:LI H ra a)(hs:∀ v,LI H (s v) (b v))(al:a.length<64)(g:∀ v,(b v).length<64)(n0:∀ v,0<=n v)(O:∀ v,Ops a (b v) (l v))(W:∀ v,xB a (b v) (n v) v (l v))(k:∀ {H':MH}{r d:Nat}{M O:aq Hv},Hx H H'->H'[r]? =ao (.list (M.map Hv.vv))->H'[d]? =ao (.list (O.map Hv.vv))->M.map Hv.h=(groups (n aL) (l aL)).map (hu a (b aL) aL)->O.map Hv.h=(groups (n be) (l be)).map (hu a (b be) be)->HvS H' M->HvS H' O->K .next (upd (upd lo "other" (.ref d)) "mine" (.ref r)) H'):aA8 X lo H K:=by
 have j:=λv=>by exact Y358 al ((W v).gl)
 exact kG (cT (aO (b6 (aO (aR (F _ (.ref ra) ⋯) (aO (aR (F _ (.ref (s aL)) ⋯) (aO (qE (v:=aL) (λv=>.int (n v)) (F _ (.ref rR) ⋯) f .k _ (aO (cB (bL (wC X (w:=aL) i (hs aL) al (g aL) (n0 aL) (λl' h=>h.uniq (O aL)) (O aL) (j aL) (W aL).gn λ{H1 r M} c o q t f1=>(aO (b6 (aO (aR (F _ (.ref ra) ⋯) (aO (aR (F _ (.ref (s be)) ⋯) (aO (qE (v:=be) (λv=>.int (n v)) (F _ (.ref rR) ⋯) (c _ _ f) .k _ (aO (cB (bL (wC X (w:=be) (c.li i) (c.li (hs be)) al (g be) (n0 be) (λl' h=>h.uniq (O be)) (O be) (j be) (W be).gn λ{x d y} e p u m f2=>(bL ⟨(show 2<100 by decide),Lf.mk rfl ⟨rfl,Lf.mk ⋯ (k (c.trans e) (e _ _ o) p q u (HvS.hx t e) m)⟩⟩))))))))))))))))))))))))))
theorem zM(g:z<1000)(e:lo x=ao (.ref r))(h:H[r]? =ao (.list (L.map Hv.vv)))(D:HvS H L)(i:L.Pairwise λx y=>kv x<kv y)(b:∀ x∈L,x.h.lo<=x.h.hi/\x.h.hi<=z)(f:L.length<64)(k:∀ {H'},Hx H H'->P aL H'):tE (aA (bN not) (eN x) (aI kK (esC (eN x) esN))) lo H P:=by
 refine pE (bE (aR e (b6 (aO (aR e (bL (r7 g h (.refl L) i b f ?_)))))))
 have c:Hx H (H++[.list (L.map Hv.vv)]):=.app _ _
 exact ne_i (sM Hv.vv (λx=>vvD x.h) (aG (c _ _ h)) (aG (aU _ _)) (λy d=>xX (xX (xX (vv_rd (c _ _ (D y d).1) (lT c.lx (D y d).2))))) λy d=>(by
  have a:=jP dI y.h.new λx q=>⟨rfl,c5 _⟩
  constructor
  ·show(be && (be && (be && (PyData.canLayAll0 (y.h.new.map dI) && ((reD y.h.r).canLay0 && be)))))=be
   refine rwL a.1 (rwL (re_ok y.h.r).1 ?_);rfl
  ·exact(eH (mxl (by decide) (mxl (by decide) (mxl (by decide) (mxl (Nat.le_trans (eH a.2) (by decide)) (mxl (Nat.le_trans (re_ok y.h.r).2 (by decide)) (by decide)))))):max 0 (max 0 (max 0 (max (PyData.depthAll (y.h.new.map dI)+1) (max (reD y.h.r).depth 0))))+1<=9))) (k c)
theorem law_7(T:Two z M O)(f:lo "mine" =ao (.ref r))(g:lo "other" =ao (.ref c))(d:H[r]? =ao (.list (M.map Hv.vv)))(i:H[c]? =ao (.list (O.map Hv.vv)))(h:HvS H M)(dO:HvS H O)(e:M.length<64)(l:O.length<64)(k:∀ {H'},Hx H H'->K .next lo H'):aA7 X lo H K:=by
 refine zS (zK (zM T.z f d h T.km (λx a=>⟨(T.bm x a).1,(T.bm x a).2.1⟩) e λ{H1} b=>bC (zK (zM T.z g (b _ _ i) (dO.hx b) T.ko (λx a=>⟨(T.bo x a).1,(T.bo x a).2.1⟩) l λ{m} j=>bC (nZ (bC (k (b.trans j))))))))
def tRR:AF:=(b3 2 (asC (aN "rows") (asC (aN "rest") asN)))
theorem tRR_i(q:R (upd (upd lo "rows" v) "rest" w) H):tRR (.tup [v,w]) lo H R:=kch (B:=(2=2/\R (upd (upd lo "rows" v) "rest" w) H)) ⋯ ⟨rfl,q⟩
theorem law_8(T:Two a.length M O)(u:lo "base" =ao (.ref ra))(p:lo "mine" =ao (.ref r))(y:lo "other" =ao (.ref l))(s:LI H ra a)(al:a.length<64)(v:H[r]? =ao (.list (M.map Hv.vv)))(B:H[l]? =ao (.list (O.map Hv.vv)))(j:HvS H M)(dO:HvS H O)(d:M.length+O.length<64)(A:∀ x,x∈M\/x∈O->x.h.new.length<64)(k:∀ {H':MH}{q g:Nat}{ws:aq Rv},Hx H H'->RL H' q ws->ws.map Rv.w=g7 a (mps M O) 0->H'[g]? =ao (.list (iV (sl a (i6 (mps M O) 0:Nat) a.length)))->ws.length<64->K .next (upd (upd lo "rows" (.ref q)) "rest" (.ref g)) H'):aA6 X lo H K:=by
 have f:=b5 kv (M++O)
 have i:=f.length_eq.trans bx
 refine jI (b6 (aO (aR u (aO (b6 (aO (bE (aR p (aR y (pQ v B (by rw[bq,bq];exact zzM1 0x15ec3283d07da6800000283d07da68000007 [M.length,O.length] ⋯ d) (rwR dv (bL (r7 T.z (aU _ _) f T.sd (λx c=>T.bd x (f.mem_iff.mpr c)) (by exact rwL bx d) ?_)))))))))))))
 have b:=(.app _ _:Hx H (H++[.list ((M++O).map Hv.vv)])).trans (.app _ _:Hx (H++[MO.list ((M++O).map Hv.vv)]) (H++[MO.list ((M++O).map Hv.vv)]++[.list ((both M O).map Hv.vv)]))
 have D:∀ x∈both M O,(x∈M\/x∈O):=λx c=>gb.mp (f.mem_iff.mp c)
 refine bL (aCi X (.of T) ⟨b.li s,al,(aU (H++[MO.list ((M++O).map Hv.vv)]) (MO.list ((both M O).map Hv.vv))),zzM2 0x946a3d07da80029a00a811c283d07da68000007 [M.length,O.length,(both M O).length] ⋯ d i,λx c=>⟨b _ _ ?_,A x (D x c)⟩,λx c=>lT b.lx ?_,T.bd⟩ λ{H' q g ws} n o e m t=>tRR_i (k (b.trans n) o e m (zzM3 0x294283d07dac002aac01e9a00a811c283d07da68000007 [M.length,O.length,(isort kv (M ++ O)).length,ws.length] ⋯ d i t)))
 ·rcases D x c with h |h
  ·exact(j x h).1
  ·exact(dO x h).1
 ·rcases D x c with h |h
  ·exact(j x h).2
  ·exact(dO x h).2
def tw(w:cw)(x:Rw):aq Int:=bif w then x.t1 else x.t0
theorem aDa:∀ {P:aq Pe}{e:Nat},tot a w e P=(g7 a P e).flatMap (λx=>x.kept++tw w x)++sl a (i6 P e) a.length:=λ{P}=>by
 induction P with
 |nil=>exact λ{e}=>rfl
 |cons p P b=>
  intro e
  rw[tot_c,b,oG,tP,gj,<-cz]
  cases w<;>rfl
theorem lV{i:Nat}(h:(Off r H)[i]? =ao (.list vs)):H[i]? =ao (.list vs):=by
 by_cases q:r=i
 ·subst q
  cases e:H[r]? with
  |none=>rw[show (Off r H)[r]? =none from by delta Off;refine rwL List.getElem?_set_self' (rwL e ?_);rfl]at h;cases h
  |some m=>rw[show (Off r H)[r]? =ao .eset from aK e _]at h;cases h
 ·exact(ez q).symm.trans h
def tRow:AF:=(aTup 4 (asC (aN "kept") (asC (aN "old") (asC (aN "texts") (asC (aN "told") asN)))))
def rwB7:BF:=(mB (bA C) (iL (aA aP (eN "kept") (aA aQ (eN "texts") (eN "who")))) (aN "x") (tK be) (aV (eN "x")))
def rwC7:EF:=(bJ (bA C) [".0","kept","old","texts","told","x"] (iL (eN "rows")) tRow (tK be) (rwB7 (C:=C)))
theorem runL(b:aq V->Lo->MH->Prop)(e:∀ {a lo H},b a lo H->lst H (.ref r)=ao vs)(h:∀ {lo H},b [] lo H->Q lo H)(hs:∀ {v a lo H P},b (v::a) lo H->(∀ {c H'},b a c H'->P c H')->fF tgt t f v lo H P):∀ (a:aq V) (p:Nat){lo:Lo}{H:MH},vs.drop p=a->b a lo H->lS (bA C) tgt t f (a.length+1) (r,p) lo H Q:=λn=>by
 induction n with
 |nil=>
  intro p lo H d i
  exact Lf.mk (p:=none) (by
    show(lst H (.ref r)).map _=_
    rw[e i,pd,ft (mj.mp d)];rfl) (h i)
 |cons v a g=>
  intro p lo H d i
  exact Lf.mk (p:=ao (v,(r,p+1))) (by
    show(lst H (.ref r)).map _=_
    rw[e i,pd,show vs[p]? =ao v from by rw[<-qa,d];rfl];rfl) (hs i λi'=>g (p+1) (by rw[<-qb,d];rfl) i')
inductive RI7(B:MH)(ai rn:Nat)(w:cw)(acc vs:aq V)(rest:aq V)(lo:Lo)(H:MH):Prop
 |mk {done:aq V} (e:done++rest=vs) (i:Fs [("who",nv (wN w))] lo) (hx:Hx B H) (ha:H[ai]? =ao (.list (acc++done))) (hn:H[rn]? =ao (.list vs)):RI7 B ai rn w acc vs rest lo H
theorem aD7(l:B[f]? =none)(D:nW (Off r B) x)(m:(x.w.kept++tw w x.w).length<1000):Put (Fs [("who",nv (wN w))]) B f (iV (x.w.kept++tw w x.w)) (fF tRow (tK be) (rwB7 (C:=C) f) x.v):=⟨λ{lo H acc P} i a b h k=>by
 refine(show tRow x.v lo H _ from (by exact λ{x R} q=>kch (B:=(4=4/\R (upd (upd (upd (upd lo "kept" (.ref x.k)) "old" (.ref x.o)) "texts" (.ref x.t)) "told" (.ref x.d)) H)) ⋯ ⟨rfl,q⟩:∀{x:Rv}{R:Lo->MH->Prop}(q:R (upd (upd (upd (upd lo "kept" (.ref x.k)) "old" (.ref x.o)) "texts" (.ref x.t)) "told" (.ref x.d)) H),tRow x.v lo H R) (nZ (bH ?_)))
 have F:=(((i.cons "kept" (.ref x.k)).cons "old" (.ref x.o)).cons "texts" (.ref x.t)).cons "told" (.ref x.d)
 generalize upd (upd (upd (upd lo "kept" (.ref x.k)) "old" (.ref x.o)) "texts" (.ref x.t)) "told" (.ref x.d)=g at F
 have u:H[bif w then x.t1 else x.t0]? =ao (.list (iV (tw w x.w))):=by
  cases w
  ·exact a _ _ (lV D.t0)
  ·exact a _ _ (lV D.t1)
 refine(show aA aP (eN "kept") (aA aQ (eN "texts") (eN "who")) g H _ from bE (aR (F _ (.ref x.k) ⋯) (qE (λv=>.ref (bif v then x.t1 else x.t0)) (F _ (.ref x.t) ⋯) (a _ _ (lV D.t)) (.n (F _ _ ⋯)) _ (pQ (a _ _ (lV D.k)) u (by rw[gW,gW];exact Y360 (rwR bx m)) ?_))))
 rw[<-tV]
 have j:Hx H (H++[.list (iV (x.w.kept++tw w x.w))]):=.app _ _
 have c:=aU H (MO.list (iV (x.w.kept++tw w x.w)))
 have s:=gq (fK b)
 refine Lf.mk rfl ⟨⟨_,aG c⟩,⟨_,runL (RI7 B f H.length w acc (iV (x.w.kept++tw w x.w))) (λJ=>?_) (λJ=>?_) (λJ p=>?_) _ 0 rfl (.mk rfl (F.re _ ⋯) (a.trans j) (by rw[c6];exact j _ _ b) c)⟩⟩
 ·cases J with
  |mk e i a b c=>exact aG c
 ·cases J with
  |mk e i a b c=>
   rw[c6]at e
   subst e
   exact k i a b
 ·cases J with
  | @mk done e i a b c=>
   refine lP (aR bK (Lf.mk (c7 b) ⟨?_,p (.mk (done:=done++[_]) (by rw[cz];exact e) (i.up ⋯) (a.set l) ((aK b _).trans (by rw[cz])) (aE c s))⟩))
   have:=cu List.length e
   rw[bx,e6]at this
   exact rwL bx (Y359 h this)⟩
theorem rwC7_i(g:lo "rows" =ao (.ref r))(i:lo "who" =ao (nv (wN w)))(rl:RL H r ws)(a:(ws.flatMap λx=>x.w.kept++tw w x.w).length<1000)(k:∀ {H'},Hx H H'->H'[H.length]? =ao (.list (iV (ws.flatMap λx=>x.w.kept++tw w x.w)))->Q (.ref H.length) H'):rwC7 (C:=C) lo H Q:=by
 have e:ws.flatMap (λx=>iV (x.w.kept++tw w x.w))=iV (ws.flatMap λx=>x.w.kept++tw w x.w):=by
  delta iV
  rw[List.map_flatMap]
 have c:Fs [("who",nv (wN w))] (hide [".0","kept","old","texts","told","x"] lo):=(Fs.re (l:=[("who",nv (wN w))]) (λy v q=>by
  rw[List.lookup]at q
  by_cases z:y="who"
  ·subst z;rw[gy]at q;exact cxS q i
  ·rw[show (y=="who")=aL by simpa using z]at q;cases q) _ ⋯).hide ⋯
 refine f7 Rv.v (λx=>iV (x.w.kept++tw w x.w)) (Fs [("who",nv (wN w))]) ws (λq=>wB (λq=>aR g q) (aG rl.h) q) (f6 (aG rl.h) _ 0 rfl) c (by rw[e,gW];exact Y216 a) (λx b=>aD7 (aH H) (rl.d x b) (ec ?_ a)) λx h=>k x (by exact rwR e h)
 exact rwL List.flatMap_def ((List.sublist_flatten_of_mem (e9 (f:=λx:Rv=>x.w.kept++tw w x.w) b)).length_le)
def kF(ra:Nat)(s:cw->Nat)(q q2 rR rC:Nat):aq (Str×V):=[("rows",.ref q),("rest",.ref q2),("base",.ref ra),("ours",.ref (s aL)),("theirs",.ref (s be)),("reach",.ref rR),("codes",.ref rC)]
def tWS:AF:=(b3 2 (asC (aN "who") (asC (aN "side") asN)))
theorem tWS_i(q:R (upd (upd lo "who" v) "side" w) H):tWS (.tup [v,w]) lo H R:=kch (B:=(2=2/\R (upd (upd lo "who" v) "side" w) H)) ⋯ ⟨rfl,q⟩
theorem law_9{b:cw->aq Int}(F:Fs (kF ra s q g rR rC) lo)(rl:RL H q ws)(G:H[g]? =ao (.list (iV c)))(hs:∀ v,LI H (s v) (b v))(m:∀ v,(b v).length<64)(o:∀ v,(ws.flatMap λx=>x.w.kept++tw v x.w)++c=b v)(k:∀ {a H'},Fs (kF ra s q g rR rC) a->Hx H H'->K .next a H'):aA5 X lo H K:=by
 refine gU (show iL (b8 (esC (eN "ours") (esC (eN "theirs") esN))) lo H _ from wV (aR (F _ (.ref (s aL)) ⋯) (aR (F _ (.ref (s be)) ⋯) (pX ?_))))
 have t:Hx H (H++[.list [.ref (s aL),.ref (s be)]]):=.app _ _
 have u:=aU H (MO.list [.ref (s aL),.ref (s be)])
 refine Lf.mk rfl ⟨⟨_,aG u⟩,⟨_,qG (λM a H'=>Fs (kF ra s q g rR rC) a/\Hx (H++[.list [.ref (s aL),.ref (s be)]]) H') (λJ=>aG (J.2 _ _ u)) (λJ=>k J.1 (t.trans J.2)) (λ{p v f H1 K} e J D=>?_) 2 0 rfl ⟨F,.refl _⟩⟩⟩
 obtain⟨l,y⟩:=J
 have d:=t.trans y
 obtain⟨w,B,E⟩:∃ w:cw,p=wN w/\v= .ref (s w):=by
  match p,e with
  |0,e=>exact cxS e ⟨aL,rfl,rfl⟩
  |1,e=>exact cxS e ⟨be,rfl,rfl⟩
  |n+2,e=>cases e
 subst B E
 have j:=cu List.length (o w)
 rw[bx]at j
 refine(show tWS (.tup [nv (wN w),.ref (s w)]) f H1 _ from tWS_i (aJ ?_))
 have h:=(l.cons "who" (nv (wN w))).cons "side" (.ref (s w))
 have r:Fs (kF ra s q g rR rC) (upd (upd f "who" (nv (wN w))) "side" (.ref (s w))):=(l.up ⋯).up ⋯
 generalize upd (upd f "who" (nv (wN w))) "side" (.ref (s w))=A at h r
 refine (bE (rwC7_i (h _ (.ref q) ⋯) (h _ _ ⋯) (rl.hx d) (Y363 j (m w)) λ{L} i I=>aR (h _ (.ref g) ⋯) (pQ I ((d.trans i) _ _ G) (by rw[gW,gW];exact Y362 j (m w)) ?_)))
 rw[<-tV,o w]
 exact aR (h _ (.ref (s w)) ⋯) (ne_i (sM V.int dI (aG (aU _ _)) (((d.trans i).trans (.app _ _)).li (hs w)) (λz M=>lA 7 z) λz M=>⟨rfl,hN _⟩) (bC (aS (D.nx ⟨r,y.trans (i.trans (.app _ _))⟩))))
theorem aG1{b:Nat}(f:RL H q ws)(g:H[b]? =ao (.list (iV a)))(k:RL H p c)(m:H[p2]? =ao (.list (iV a)))(e:ws.map Rv.w=c.map Rv.w):eqv H (.tup [.ref q,.ref b]) (.tup [.ref p,.ref p2])=ao be:=by
 have r:∀ {q b:Nat}{ws:aq Rv},RL H q ws->H[b]? =ao (.list (iV a))->rd H 8 (.tup [.ref q,.ref b])=ao (.tuple [.list ((ws.map Rv.w).map rwD),.list (a.map dI)]):=λ{q b ws} f g=>by
  show(([V.ref q,.ref b].mapM (rd H 7)).map PyData.tuple)=_
  rw[fe,fe,f.rd,iD 6 (aG g)];rfl
 refine wU (e▸(r f g)) (r k m) ?_
 have j:=jP rwD (c.map Rv.w) λx n=>(by
  intro w
  have i:=λl=>jP dI l λx n=>⟨rfl,c5 _⟩
  have r:=λl=>jP reD l λx n=>re_ok x
  constructor
  ·show(PyData.canLayAll0 (w.kept.map dI) && (PyData.canLayAll0 (w.old.map dI) && ((PyData.canLayAll0 (w.t0.map dI) && (PyData.canLayAll0 (w.t1.map dI) && be)) && ((PyData.canLayAll0 (w.d0.map reD) && (PyData.canLayAll0 (w.d1.map reD) && be)) && be))))=be
   rw[(i w.kept).1,(i w.old).1,(i w.t0).1,(i w.t1).1,(r w.d0).1,(r w.d1).1];rfl
  ·have d:∀ l:aq Int,PyData.depthAll (l.map dI)+1<=4:=λl=>Nat.le_trans (eH (i l).2) (by decide)
   exact eH (Nat.le_trans (mxl (lw (d _)) (mxl (lw (d _)) (mxl (eH (mxl (d _) (mxl (d _) (by decide)))) (mxl (eH (mxl ((λl=>eH (r l).2) _) (mxl ((λl=>eH (r l).2) _) (by decide)))) (by decide))))) (by decide)):∀(w:Rw),(rwD w).canLay0=be/\(rwD w).depth<=20) x
 have h:=jP dI a λx n=>⟨rfl,c5 _⟩
 refine cp.mpr (And.symm ⟨bp (eH (mxl (Nat.le_trans (eH j.2) (by decide)) (mxl (Nat.le_trans (eH h.2) (by decide)) (by decide))):max (PyData.depthAll ((c.map Rv.w).map rwD)+1) (max (PyData.depthAll (a.map dI)+1) 0)+1<=64),?_⟩)
 ·show(PyData.canLayAll0 ((c.map Rv.w).map rwD) && (PyData.canLayAll0 (a.map dI) && be))=be
  rw[j.1,h.1];rfl
theorem law_10{c:cw->Nat}{b:cw->aq Int}(m:Mrg same a (b aL) (b be) (n aL) (n be) (l aL) (l be) (groups (n aL) (l aL)) (groups (n be) (l be)) M O)(W:∀ v,xB a (b v) (n v) v (l v))(N:(mps M O).length<1000)(G:Good a b l n)(F:Fs (kF ra s q j rR rC) lo)(rl:RL H q ws)(e:ws.map Rv.w=g7 a (mps M O) 0)(Z:H[j]? =ao (.list (iV (sl a (i6 (mps M O) 0:Nat) a.length))))(P:LI H ra a)(hs:∀ v,LI H (s v) (b v))(Q:H[rR]? =ao (.list [.int (n aL),.int (n be)]))(V:H[rC]? =ao (.list [.ref (c aL),.ref (c be)]))(hc:∀ v,H[c v]? =ao (.list ((l v).map Op.v)))(k:∀ {H'},R (.bool be) H'):(aB (wM X) (sK .next)) lo H (jJ R):=by
 refine aJ (jH (bE (cT (aO (aR (F _ (.ref q) ⋯) (aO (aR (F _ (.ref j) ⋯) (bL ⟨(show 2<100 by decide),b6 (aO (aR (F _ (.ref ra) ⋯) (aO (wV (aR (F _ (.ref (s aL)) ⋯) (aR (F _ (.ref (s be)) ⋯) (pX (aO (aR (F _ (.ref rC) ⋯) (aO (aR (F _ (.ref rR) ⋯) (bL ?_))))))))))))⟩))))))))
 have i:Hx H (H++[.list [.ref (s aL),.ref (s be)]]):=.app _ _
 refine due_ok X (E:=⟨i.li P,aU _ _,i _ _ V,i _ _ Q,λv=>i.li (hs v),λv=>i _ _ (hc v)⟩) G m.spt (by rw[bq];exact Y333 N) (λk A=>by
   have U:=m.ok.2.2 k
   have z:∀ x,x∈both M O↔x∈M\/x∈O:=λx=>((b5 kv (M++O)).mem_iff).trans gb
   have f:∀ {b:aq Int}{w:cw}{u:aq (aq Op)}{L:aq Hv},L.map Hv.h=u.map (hu a b w)->((∃ p∈u.map rg,p.1<=k/\k<=p.2)↔∃ x∈L,2*x.h.lo<=k/\k<=2*x.h.hi):=λ{b w u L} q=>by
    have j:(∃ h∈L.map Hv.h,2*h.lo<=k/\k<=2*h.hi)↔∃ h∈u.map (hu a b w),2*h.lo<=k/\k<=2*h.hi:=by rw[q]
    constructor
    ·rintro ⟨p,t,r⟩
     obtain⟨g,y,rfl⟩:=gw.mp t
     refine xEA (j.mpr ⟨_,e9 y,r⟩) λh o r=>?_
     obtain⟨x,d,rfl⟩:=gw.mp o
     exact⟨x,d,r⟩
    ·rintro ⟨x,d,r⟩
     refine xEA (j.mp ⟨_,e9 d,r⟩) λh o r=>?_
     obtain⟨g,y,rfl⟩:=gw.mp o
     exact⟨rg g,e9 y,r⟩
   refine Iff.trans Bool.or_eq_true_iff (Iff.trans (or_congr ((m.S0.K.m k A).trans (f m.hM)) ((m.S1.K.m k A).trans (f m.hO))) ?_)
   constructor
   ·intro h
    have:∃ h∈(both M O).map Hv.h,2*h.lo<=k/\k<=2*h.hi:=by
     rcases h with ⟨x,d,r⟩ |⟨x,d,r⟩
     ·exact⟨_,e9 ((z x).mpr (.inl d)),r⟩
     ·exact⟨_,e9 ((z x).mpr (.inr d)),r⟩
    refine xEA (U.mpr this) λp t r=>?_
    exact⟨pg p,e9 t,r⟩
   ·rintro ⟨p,t,r⟩
    obtain⟨q,Y,rfl⟩:=gw.mp t
    refine xEA (U.mp ⟨q,Y,r⟩) λh o r=>?_
    obtain⟨x,d,rfl⟩:=gw.mp o
    rcases(z x).mp d with d |d
    ·exact .inl ⟨x,d,r⟩
    ·exact .inr ⟨x,d,r⟩) (λv=>(W v).S.K.s) (λv=>(W v).S.K.m) (λv=>by rw[bq];exact zzM2 0x157e8f41f680000a0f41f690001c1f69028007 [(groups (n v) (l v)).length,a.length] ⋯ ((W v).gl) G.al) (λ{H' p p2 us} B J I T=>?_)
 have D:ws.map Rv.w=us.map Rv.w:=by rw[e,I,(m.rows (s:=0) λp h=>h).1];rfl
 exact Lp.mk (by delta bN;rw[aG1 (rl.hx (i.trans B)) ((i.trans B) _ _ Z) J (rwL (m.rows (s:=0) λp h=>h).2 T) D];rfl) k
theorem aAd{c:aq (aq Op)}{L:aq Hv}(e:L.map Hv.h=c.map (hu a b w))(f:b.length<64):∀ x∈L,x.h.new.length<64:=λx d=>by
 refine xEA (gw.mp (rwR e (e9 d))) λg g q=>?_
 exact rwR q (ec ((List.take_sublist _ _).trans (sO _ _)).length_le f)
theorem law_ok(I:u.length<=63)(h:LI H rs u)(k:∀ {H'},Q (.bool be) H'):c_law X [.ref rs] H Q:=by
 refine⟨rfl,?_⟩
 have F:Fs [("script",.ref rs)] (loB ["script"] [.ref rs] lo0):=Fs.cons (l:=[]) nofun "script" (.ref rs)
 show aBf X (loB ["script"] [.ref rs] lo0) H (jJ Q)
 revert F
 generalize loB ["script"] [.ref rs] lo0=lo
 intro F
 delta aBf
 refine aJ (law_0 X (F _ _ ⋯) h (zzM1 0x57e8f41f6800007ff68007 [u.length] ⋯ I) λ{H1 D ns} x1 U nl=>aS (aJ ?_))
 have F:=F.cons "numbers" (.ref D)
 generalize upd lo "numbers" (.ref D)=lo at F
 refine law_1 X (F _ (.ref rs) ⋯) (x1.li h) λ{H2} V hR=>aS (aJ ?_)
 have F:=F.cons "reach" (.ref H1.length)
 generalize upd lo "reach" (.ref H1.length)=lo at F
 generalize H1.length=rR at F hR
 refine (cC (qA (F _ (.ref D) ⋯) (V _ _ U) (Y372 nl) (λ{lo H ai z P} q=>oE (yC bK (Lf.mk rfl (uX q λq=>yD bK _ q)))) (λ{H3 ra a} x3 ha al _=>aS (aJ ?_))))
 have F:=F.cons "base" (.ref ra)
 generalize upd lo "base" (.ref ra)=lo at F
 refine (cC (qA (F _ (.ref D) ⋯) ((V.trans x3) _ _ U) (Y372 nl) (λ{lo H ai z P} q=>oE (yC bK (Lf.mk rfl (uX q λq=>yD bK _ q)))) (λ{H4 r0 b0} T h0 l0 _=>aS (aJ ?_))))
 have F:=F.cons "ours" (.ref r0)
 generalize upd lo "ours" (.ref r0)=lo at F
 refine (cC (qA (F _ (.ref D) ⋯) ((V.trans (x3.trans T)) _ _ U) (Y372 nl) (λ{lo H ai z P} q=>oE (yC bK (Lf.mk rfl (uX q λq=>yD bK _ q)))) (λ{B J b1} Z h1 l1 _=>aS (aJ ?_))))
 have F:=F.cons "theirs" (.ref J)
 generalize upd lo "theirs" (.ref J)=lo at F
 obtain⟨s,s0,s1⟩:∃ s:cw->Nat,s aL=r0/\s be=J:=⟨λv=>bif v then J else r0,rfl,rfl⟩
 obtain⟨b,e0,e1⟩:∃ b:cw->aq Int,b aL=b0/\b be=b1:=⟨λv=>bif v then b1 else b0,rfl,rfl⟩
 obtain⟨n,n0,n1⟩:∃ n:cw->Int,n aL=(1+u.sum)%3/\n be=u.sum/3%3:=⟨λv=>bif v then u.sum/3%3 else(1+u.sum)%3,rfl,rfl⟩
 have g:=aG ((T.trans Z) _ _ ha)
 have i:∀ v,LI B (s v) (b v):=λv=>by
  cases v
  ·exact rwL s0 (rwL e0 (aG (Z _ _ h0)))
  ·exact rwL s1 (rwL e1 (aG h1))
 have t:∀ v,(b v).length<64:=λv=>by
  cases v
  ·exact rwL e0 (Y365 l0)
  ·exact rwL e1 (Y365 l1)
 have nb:∀ v,0<=n v/\n v<1000:=λv=>by
  cases v
  ·exact rwL n0 (Y371 (Int.emod_nonneg _ (by decide)) (Int.emod_lt_of_pos _ (by decide)))
  ·exact rwL n1 (Y371 (Int.emod_nonneg _ (by decide)) (Int.emod_lt_of_pos _ (by decide)))
 have y:B[rR]? =ao (.list [.int (n aL),.int (n be)]):=by rw[n0,n1];exact(x3.trans (T.trans Z)) _ _ hR
 rw[<-s0]at F
 rw[<-s1]at F
 refine law_5 X (F.re _ ⋯) g i (Y365 al) t λ{H6 c l} E hC I=>aS (aJ ?_)
 have F:=F.cons "codes" (.ref B.length)
 generalize upd lo "codes" (.ref B.length)=lo at F
 generalize B.length=rC at F hC
 have O:=λv=>(I v).1
 have W:∀ v,xB a (b v) (n v) v (l v):=λv=>.of (nb v).1 (O v) (Y365 al) v
 refine law_6 X (F.re _ ⋯) (E _ _ y) (E.li g) (λv=>E.li (i v)) (Y365 al) t (λv=>(nb v).1) O W λ{H7 r G M R} L hM hO eM Y dM dO=>aS (aJ ?_)
 have F:=(F.cons "other" (.ref G)).cons "mine" (.ref r)
 generalize upd (upd lo "other" (.ref G)) "mine" (.ref r)=lo at F
 have m:Mrg same a (b aL) (b be) (n aL) (n be) (l aL) (l be) (groups (n aL) (l aL)) (groups (n be) (l be)) M R:=⟨(W aL).S,(W be).S,eM,Y,zzM1 0x15fa3d07da00018f68007 [a.length] ⋯ al⟩
 have Ml:M.length<=a.length+1:=by
  have A:=cu List.length eM
  rw[bq,bq]at A
  exact Y369 A ((W aL).gl)
 have Ol:R.length<=a.length+1:=by
  have A:=cu List.length Y
  rw[bq,bq]at A
  exact Y369 A ((W be).gl)
 refine law_7 X m.two (F _ (.ref r) ⋯) (F _ (.ref G) ⋯) hM hO dM dO (Y368 al Ml) (Y368 al Ol) λ{H8} j=>aS (aJ ?_)
 have o:=E.trans (L.trans j)
 refine law_8 X m.two (F _ (.ref ra) ⋯) (F _ (.ref r) ⋯) (F _ (.ref G) ⋯) (o.li g) (Y365 al) (j _ _ hM) (j _ _ hO) (dM.hx j) (dO.hx j) (zzM3 0x2ac283d07daa9000001f6802a00707da00a401d8f68007 [a.length,M.length,R.length] ⋯ al Ml Ol) (λx hx=>hx.elim (aAd eM (t aL) x) (aAd Y (t be) x)) λ{H9 q q2 ws} K rl ew h2 wl=>aS (aJ ?_)
 have F:=(F.cons "rows" (.ref q)).cons "rest" (.ref q2)
 generalize upd (upd lo "rows" (.ref q)) "rest" (.ref q2)=lo at F
 refine law_9 X (rR:=rR) (rC:=rC) (ra:=ra) (F.re _ ⋯) rl h2 (λv=>(o.trans K).li (i v)) t (λv=>?_) λ{aa ac} N f=>aS ?_
 ·have tr:=aDa (a:=a) (w:=v) (P:=mps M R) (e:=0)
  rw[<-ew,List.flatMap_map]at tr
  refine tr.symm.trans ?_
  cases v
  ·exact m.d0.all
  ·exact m.d1.all
 ·have d:=(o.trans K).trans f
  refine law_10 X m W ?_ ⟨Y365 al,t,λv=>(O v).cod,λv=>?_,nb⟩ N (rl.hx f) ew (f _ _ h2) (d.li g) (λv=>d.li (i v)) (d _ _ y) ((L.trans (j.trans (K.trans f))) _ _ hC) (λv=>(L.trans (j.trans (K.trans f))) _ _ (I v).2) k
  ·have:=cu List.length ew
   rw[bq,(by
    exact λ{a}=>λ{P}=>by
      induction P with
      |nil=>exact λ{e}=>rfl
      |cons p P ih=>intro e;rw[oG,e6,e6,ih]:∀{a:aq Int},∀ {P:aq Pe}{e:Nat},(g7 a P e).length=P.length)]at this
   exact zzM2 0xa5fa3d07da40029a011c283d07da00007 [ws.length,(mps M R).length] ⋯ wl this
  ·exact zzM1 0x57e8f41f680001a8f68007 [(l v).length] ⋯ ((O v).len (show a.length<64 by exact Y365 al))
theorem aFg(w:jp){s:bv}(a:∀ b o,(H1 w).get? b=ao o->s.heap.get? b=ao o):s.heap.NoLimit:=⟨_,aAb (a _ _ (zE w _ _ (Option.eq_some_of_isSome (by kernel_rfl)))) ⋯,by kernel_rfl⟩
theorem vA:∀ (ns:aq Int) (a:aq Tok),a.length=ns.length->VRs ρ h ((ns.zip a).map λx=>Value.int x.1 x.2) (ns.map V.int)
 | [],a,_=>by cases a<;>exact VRs.nil
 |n::ns,[],h=>nomatch h
 |n::ns,t::a,h=>VRs.cons (VR.int _ _) (vA ns a (Nat.succ.inj h))
theorem walk(w:jp)(c:bv)(a:dw)(ns:aq Int)(t:aq Tok)(n:∀ b o,(H1 w).get? b=ao o->c.heap.get? b=ao o)(B:c.gens= #[])(A:t.length=ns.length)(D:ns.length<=63)(C:c.heap.IsList a ((ns.zip t).map λx=>Value.int x.1 x.2).toArray)(E:(H1 w).get? a=none):bI (h9 pw w) vu (call (.ref 288) [.ref a]) (λv s'=>v= .bool be/\(∀ b o,c.heap.get? b=ao o->s'.heap.get? b=ao o)/\s'.os=c.os/\qc s'.gens) (λF F=>fm) c:=by
 have S:Sim (mkCx pw w c (aFg w n) (gsh w.params)) [.ro (ns.map V.int)] [⟨a,a,none⟩] c:=by
  refine⟨rfl,λF F e=>e,λi m l u d=>?_,λi l d=>?_,λi j y z h g s=>?_,λi j y z k h g s=>?_,rfl,.of_eq B⟩
  ·cases i with
   |zero=>exact cxS u (cxS d ⟨rfl,rfl,_,C,vA ns t A⟩)
   |succ i=>cases u
  ·cases i with
   |zero=>exact .inl ⟨_,rfl⟩
   |succ i=>cases d
  ·cases i with
   |zero=>cases j with
    |zero=>exact ca rfl s
    |succ j=>cases g
   |succ i=>cases h
  ·cases i with
   |zero=>cases j with
    |zero=>exact ca rfl s
    |succ j=>cases g
   |succ i=>cases h
 refine wmN ((cv_law ⟨w,n,λF F F F=>rfl⟩).call (vs:=[.ref 0]) (Q:=λv F=>v= .bool be) ⟨rfl,by decide+kernel,by decide+kernel⟩ S (.cons (VR.ref (l:=⟨a,a,none⟩) rfl) .nil) (law_ok ⟨w,n,λF F F F=>rfl⟩ D rfl λ{F}=>rfl)) λx s' p=>?_
 cases p with
 |mk f N r q=>
  subst q
  cases r
  exact⟨rfl,f.keep,f.os,f.bare⟩
theorem holds07:PySem.Challenge.rw_dm0053_07.Holds:=head walk
end Mine.Internal
theorem PySem.Challenge.cw_dm0053_07_holds : PySem.Challenge.rw_dm0053_07.Holds :=
 Mine.Internal.holds07
