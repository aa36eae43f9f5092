import PyProof.Rows.All
import PyProof.Rows.RuleN_abs
import KE.KDictLaws
import KE.KDictIter
import KE.KFromBytes
import KE.KItemsList
import Wide.FinOn
import OpenK.AllK
import Wide.All
import Lean
import PySem.Challenge.RW_dm0053_01
set_option Elab.async false
set_option genInjectivity false
set_option genSizeOf false
set_option genCtorIdx false
set_option maxRecDepth 100000
set_option linter.all false
set_option bootstrap.genMatcherCode false
set_option compiler.extract_closed false
open PySem PySem.W PyProof.Rows PySem.Calls
namespace Mine.Internal
open Lean in
local macro_rules (kind := Lean.Parser.Term.omission)
| s => return mkNode `Lean.Parser.Term.byTactic #[mkAtom "by",mkNode `Lean.Parser.Tactic.tacticSeq #[mkNode `Lean.Parser.Tactic.tacticSeq1Indented #[mkNullNode #[mkNode `tacticKernel_rfl #[mkAtom "kernel_rfl"]]]]]
open Lean in
local macro_rules (kind := Lean.Parser.Command.declaration)
| x => if x[1].isOfKind `Lean.Parser.Command.definition && x[0][4].isNone then return x.setArg 0 (x[0].setArg 4 (mkNullNode #[mkNode `Lean.Parser.Command.noncomputable #[mkAtom "noncomputable"]])) else Macro.throwUnsupported
open List (getElem?_eq_none_iff map_map)

open Nat (beq ble blt)
open Option (pure_def)

open _root_.Option renaming some→aa,bind_eq_some_iff→aj,map_eq_some_iff→df,map_some→qt,bind_eq_bind→wf
open _root_ renaming List→ac,Option→ae,decide_eq_true→ao,if_neg→aq,if_pos→aw,absurd→ba,decide_eq_false→bc,congrArg→bg,of_decide_eq_true→cx,Bool→dj,cond_true→dy,False→fe,cond_false→fk,if_false→jw,Array→kq,beq_self_eq_true→nu,String→pj,beq_eq_false_iff_ne→qq,bne_self_eq_false→su,Unit→ur,if_true→vh,True→vx,bne_iff_ne→wd,or_false→wj
open _root_.Bool renaming false→af,true→ag,and_eq_true_iff→bx,false_eq_true→jd
open PySem renaming Shared→ak,wpAny→ar,Value→au,wpAny_holding→ax,builtinLookup_eq_fast→bp,Params→bq,Addr→bz,sizeLine_eq→dh,starEach→di,wpAny_callSpecial?_slot→dm,wpAny_newObj_type→dp,typeLookup_type→dt,wpAny_mono→dv,wpAny_standAt→dw,Around→ef,assignEach→eh,wpAny_call_entry→eo,mainGlobals→ew,callEnvC→fh,typeLookup→fq,foldedSetIterable→gu,model→gz,wpAny_field→hB,wpAny_seqItems→iq,isSubtype_type→ir,seqIndex?→iu,eval→iw,wpAny_of_eq→ja,Stmt→jb,wpAny_call→jc,codeAny_call_builtin→jh,compareOp→ji,World→jn,swappedStores→jo,attributeBase→jp,builtinsNs→jv,NameKind→jx,slot_listiter_next→jy,codeAny_mono→jz,codeAny→kr,PyData→kx,backTo→ky,entryFor_of_tree→lh,wpAny_isInstance→lq,Heap→lu,wpAny_specialOf→ma,codeAny_of_tree→mc,Comprehension→mj,wpAny_attempt→ml,wpAny_Call_ofName→mr,pyNext→mx,letTemporaryGo→my,sysModules→mz,isSubtype→nq,fresh→ny,wpAny_onRaise→og,execs→oq,builtinKind→ou,valueAt→ox,wpAny_pyNext_list_item→oy,wpAny_pyIter_list→oz,entryFor→pd,wpAny_setField→pe,builtinsGlobalAsBooted→ph,wpAny_items_cons→pi,argsOk→po,wpAny_rule→pp,getItem→px,assignInOrder→pz,GenState→qd,binaryOp→qf,interactive→qh,sliceBounds→qi,table→qj,Result→qk,wpAny_updateSeq→qo,entry_listiter_next→qr,swapsWith→qs,intKind_is→qu,typeOf→qw,checkBoundCall→qx,wpAny_newFunctionEnv_cells→qy,args_listiter_next→rh,isSubtype_stop→ri,Program→se,intKind→si,holding→sj,wpAny_assign_Name→sp,wpAny_handled→sv,foldedForSure→s6,wpAny_listSubscript_int→tq,Scope→tu,wpAny_pyIter_gen→tw,wpAny_typeOf→tS,isInstance→ud,callSpecial?→ue,OsState→ug,wpAny_items_nil→ui,wpAny_execs_nil→uj,letOwnedTupleGo→uk,execs_cons_wrap→ul,theTreesLotGoes→um,wpAny_pyNext_list_end→uo,getitemInPython_of_ne→uq,pyIter→ut,wpAny_letTemporaryGo→uu,entryFor_alias→uv,wpAny_loadPart→uw,FuncData→ux,wpAny_throw→uy,unsupported→uz,staticOf→vf,getAttr→vi,behindInMarks→vp,Reads→vq,plainId_quiet→vr,comprehension→vt,slot_gen_next→vu,table_eq_tree→vv,bltViewBooted→vw,assign→vy,call_meets→wa,setItem→wg,Keyword→wh,sizeLine→wi,cStatics→wm,IsPart→wo,DictEntry→wq,denote→wu,clipAt→wv,unpackItems→ww,keywordEach→wx,wpAny_letGo→wy,Flow→xc,standAt→xd,plainId→xh,Builtin→xi,callerA→xj,callWith→xo,mainNs→xr,Model→xw
open _root_.List renaming length_append→am,length_map→ay,getElem?_eq_getElem→az,prefix_refl→be,getElem?_set_self→bn,length_singleton→bo,length_cons→cq,append_nil→cw,mem_singleton→cy,map_append→cz,mem_of_getElem?→dc,getElem?_append_right→dg,getElem?_append_left→dl,getD_eq_getElem?_getD→dq,append_assoc→dz,getElem?_set_ne→ei,getElem?_eq_none→eu,mem_cons→ez,not_mem_nil→fg,pairwise_cons→fp,mem_cons_of_mem→gh,cons_ne_nil→gj,getElem?_map→gp,all_eq_true→ie,mem_append→ij,map_cons→jf,length_drop→jg,length_set→jj,cons_eq_cons→jm,mem_cons_self→jq,contains_iff_mem→jt,forIn_cons→lx,flatMap_cons→lz,drop_eq_nil_iff→mh,prefix_append→mi,set_set→ms,getElem?_of_mem→oh,length_nil→pu,head?_drop→rk,cons_append→ss,drop_left→tm,size_toArray→tz,mem_filter→tY,length_range→uf,mapM_cons→vg,drop_drop→vm,find?_cons→vz,mem_map→we,forIn_nil→wt
open _root_.Int renaming le_trans→bw,natCast_nonneg→cj,toNat_natCast→ii,lt_of_lt_of_le→iy,lt_add_of_pos_right→iz,sub_nonneg_of_le→jr,lt_irrefl→ju,not_lt→mo,add_assoc→nj,le_of_lt→oe,max_eq_left→on,add_zero→qa,ofNat_le→qc,zero_add→th,le_of_eq→xl
open _root_.Nat renaming le_refl→ce,lt_of_le_of_lt→du,zero_le→gw,le_of_ble_eq_true→ip,le_succ_of_le→je,succ_le_succ→kh,lt_trans→ko,le_succ→lw,le_add_right→ly,lt_or_ge→mw,le_add_left→nh,lt_succ_self→ni,sub_self→qe,ne_of_lt→qg,succ_pos→xv
open PySem.W renaming boot_heap→cu,boot_drawn→fx,looks_findIn→kj,Looks→mq,callWith_of→ot,boot_toks→ow,topStub→pg,Frag→sy,check_slot→uc,absHeap→uh,looks_subIn→vd,ReadsAllW→vk,namesBound→wc,boot_o_0→wk,boot_o_2→xp,boot_o_4→xq,laidKept→xu
open PyProof.Rows renaming slot_tupleiter_next→ku,slot_tuple_getitem→om,AllBare→pv,get?_update_seq→qp,listUpdate_at→sx,entry_tupleiter_next→ve,pairsOf→vj,args_tupleiter_next→vn,seqObj→wb,seqEpoch_at→wz
open _root_.LawfulBEq renaming eq_of_beq→pn
open PySem.Calls renaming call_function_entry→vo
section
variable{a b c d e f g h i j k l:Int}{m n p q r s t u v w x y:Nat}
def zzB:=@wpAny_bind
def zzP:=@wpAny_pure
theorem zzE{k:Nat}(h:0<k:=by decide):n<k*(n/k+1):=Nat.lt_mul_div_succ n h
theorem zzD:2*(n/2)<=n:=Nat.mul_div_le n 2
theorem zzN(h:b≠0:=by decide):0<=a%b:=Int.emod_nonneg a h
theorem zzL(h:0<b:=by decide):a%b<b:=Int.emod_lt_of_pos a h
@[elab_as_elim]theorem rwL{α:Sort u}{motive:α->Prop}{a b:α}(h:a=b)(k:motive b):motive a:=h▸k
@[elab_as_elim]theorem rwR{α:Sort u}{motive:α->Prop}{a b:α}(h:a=b)(k:motive a):motive b:=h▸k
@[elab_as_elim]theorem cxSP{α:Type u}{β:Type v}{motive:α->β->Prop}{a c:α}{b d:β}(h:aa (a,b)=aa (c,d))(k:motive a b):motive c d:=by cases h; exact k
@[elab_as_elim]theorem cxS{α:Type u}{motive:α->Prop}{a b:α}(h:aa a=aa b)(k:motive a):motive b:=by cases h; exact k
@[elab_as_elim]theorem cxP{α:Type u}{β:Type v}{motive:α->β->Prop}{a c:α}{b d:β}(h:(a,b)=(c,d))(k:motive a b):motive c d:=by cases h; exact k
theorem cySP{α:Type u}{β:Type v}{a c:α}{b d:β}{P:Prop}(h:aa (a,b)=aa (c,d))(k:a=c->b=d->P):P:=by cases h; exact k rfl rfl
theorem cyS{α:Type u}{a c:α}{P:Prop}(h:aa a=aa c)(k:a=c->P):P:=by cases h; exact k rfl
theorem cyM{α:Type u}{a:α}{P:Prop}(h:aa a=none):P:=nomatch h
namespace Z
inductive T |v (i:Nat) |k (n:Nat) |o (c:Nat) (x y:T)
noncomputable abbrev Ln:=Int×ac Int×ac Int
noncomputable abbrev Al:=ac (ac Ln×Ln)
def dot(a:ac Int):ac Int->Int:=a.rec (λ_=>0) λc _ r x=>match x with | []=>0 |x::xs=>c*x+r xs
def ladd(a:ac Int):ac Int->ac Int:=a.rec (λb=>b) λc cs r b=>match b with | []=>c::cs |x::xs=>(c+x)::r xs
theorem i4(a b c d:Int):a+b+(c+d)=a+c+(b+d):=by omega
theorem yU(a:ac Int):∀ b x,dot (ladd a b) x=dot a x+dot b x:=by
 induction a with
 |nil=>exact λb x=>(th _).symm
 |cons a as ih=>
  intro b x
  cases b with
  |nil=>exact(qa _).symm
  |cons b bs=>
   cases x with
   |nil=>rfl
   |cons x xs=>
    show(a+b)*x+dot (ladd as bs) xs=(a*x+dot as xs)+(b*x+dot bs xs)
    rw[ih,Int.add_mul,i4]
theorem yT(k:Int)(a:ac Int):∀ x,dot (a.map (k* ·)) x=k*dot a x:=by
 induction a with
 |nil=>exact λx=>(Int.mul_zero _).symm
 |cons a as ih=>
  intro x
  cases x with
  |nil=>exact(Int.mul_zero _).symm
  |cons x xs=>
   show k*a*x+dot (as.map (k* ·)) xs=k*(a*x+dot as xs)
   rw[ih,Int.mul_add,Int.mul_assoc]
def un(i:Nat):ac Int:=i.rec [1] λ_ r=>0::r
theorem aEj(i:Nat):∀ x:ac Int,dot (un i) x=x.getD i 0:=by
 induction i with
 |zero=>intro x;cases x with
  |nil=>rfl
  |cons x xs=>exact(qa _).trans (Int.one_mul _)
 |succ i ih=>intro x;cases x with
  |nil=>rfl
  |cons x xs=>exact(bg (·+_) (Int.zero_mul x)).trans ((th _).trans (ih xs))
def la(a b:Ln):Ln:=(a.1+b.1,ladd a.2.1 b.2.1,ladd a.2.2 b.2.2)
def lm(k:Int)(a:Ln):Ln:=(k*a.1,a.2.1.map (k* ·),a.2.2.map (k* ·))
def ls(a b:Ln):Ln:=la a (lm (-1) b)
def lk(k:Int):Ln:=(k,[],[])
def ev(xs:ac Int)(ns:ac Nat)(l:Ln):Int:=l.1+(dot l.2.1 xs+dot l.2.2 (ns.map Nat.cast))
theorem aD7(xs:ac Int)(ns:ac Nat)(a b:Ln):ev xs ns (la a b)=ev xs ns a+ev xs ns b:=by
 show a.1+b.1+(dot (ladd _ _) _+dot (ladd _ _) _)=a.1+(_+_)+(b.1+(_+_))
 rw[yU,yU,i4 (dot a.2.1 xs)];exact i4 ..
theorem aD6(xs:ac Int)(ns:ac Nat)(k:Int)(a:Ln):ev xs ns (lm k a)=k*ev xs ns a:=by
 show k*a.1+(dot (List.map _ _) _+dot (List.map _ _) _)=k*(a.1+(_+_))
 rw[yT,yT,Int.mul_add,Int.mul_add]
theorem qF(xs:ac Int)(ns:ac Nat)(a b:Ln):ev xs ns (ls a b)=ev xs ns a-ev xs ns b:=by rw[ls,aD7,aD6,Int.neg_mul,Int.one_mul,Int.sub_eq_add_neg]
theorem oM(xs:ac Int)(ns:ac Nat)(k:Int):ev xs ns (lk k)=k:=qa k
def Sg(xs:ac Int)(ns:ac Nat)(g:ac Ln):Prop:=∀ q∈g,0<=ev xs ns q
def Sa(xs:ac Int)(ns:ac Nat)(a:Al)(z:Int):Prop:=∃ p∈a,Sg xs ns p.1/\ev xs ns p.2=z
def Sd(xs:ac Int)(ns:ac Nat)(d:ac (ac Ln)):Prop:=∃ g∈d,Sg xs ns g
def pr{β:Type}(f:ac Ln->Ln->Ln->ac β)(a b:Al):ac β:=a.flatMap λp=>b.flatMap λq=>f (p.1++q.1) p.2 q.2
theorem Sg.app{a b:ac Ln}(h:Sg xs ns a)(g:Sg xs ns b):Sg xs ns (a++b):=λq m=>(ij.mp m).elim (h q) (g q)
theorem Sg.sn{a:ac Ln}{l:Ln}(h:Sg xs ns a)(g:0<=ev xs ns l):Sg xs ns (a++[l]):=h.app λ_ m=>cy.mp m▸g
theorem Sg.nil:Sg xs ns []:=λ_ h=>ba h fg
theorem q4{f:ac Ln->Ln->Ln->ac β}{a b:Al}{x y:Int}{P:β->Prop}(h:Sa xs ns a x)(g:Sa xs ns b y)(k:∀ u v w,Sg xs ns u->ev xs ns v=x->ev xs ns w=y->∃ z∈f u v w,P z):∃ z∈pr f a b,P z:=h.elim λp h=>g.elim λq g=>(k _ _ _ (h.2.1.app g.2.1) h.2.2 g.2.2).elim λz m=>⟨z,List.mem_flatMap.mpr ⟨p,h.1,List.mem_flatMap.mpr ⟨q,g.1,m.1⟩⟩,m.2⟩
theorem Sa.one{l:Ln}(h:ev xs ns l=z):Sa xs ns [([],l)] z:=⟨_,List.mem_singleton_self _,.nil,h⟩
def op(c:Nat)(x y:Nat×Int):Nat×Int:=List.getD [(x.1+y.1,x.2+y.2),(x.1-y.1,x.2-y.2),(max x.1 y.1,max x.2 y.2),(min x.1 y.1,min x.2 y.2),(x.2.toNat,(x.1:Int)),(0,-x.2)] c ((c-32)*x.1,((c-32:Nat):Int)*x.2)
def aN(f:Ln->Ln->Ln):Al->Al->Al:=pr λg p q=>[(g,f p q)]
def aC(f:Ln->Ln->Ln×Ln):Al->Al->Al:=pr λg p q=>[(g++[ls p q],(f p q).1),(g++[ls q p],(f p q).2)]
def one:Al:=[([],lk 0)]
def al(c:Nat)(x y:Al×Al):Al×Al:=List.getD [(aN la x.1 y.1,aN la x.2 y.2),(aC (λp q=>(ls p q,lk 0)) x.1 y.1,aN ls x.2 y.2),(aC (λp q=>(p,q)) x.1 y.1,aC (λp q=>(p,q)) x.2 y.2),
 (aC (λp q=>(q,p)) x.1 y.1,aC (λp q=>(q,p)) x.2 y.2),(aC (λp q=>(p,lk 0)) x.2 one,x.1),(one,aN (λp _=>lm (-1) p) x.2 one)] c (aN (λp _=>lm (c-32:Nat) p) x.1 one,aN (λp _=>lm (c-32:Nat) p) x.2 one)
def S2(xs:ac Int)(ns:ac Nat)(a:Al×Al)(x:Nat×Int):Prop:=Sa xs ns a.1 x.1/\Sa xs ns a.2 x.2
theorem Sa.zero:Sa xs ns Z.one 0:=.one (oM xs ns 0)
theorem Sa.aN{a b:Al}{x y:Int}{f:Ln->Ln->Ln}(k:∀ p q,ev xs ns p=x->ev xs ns q=y->ev xs ns (f p q)=z)(h:Sa xs ns a x)(g:Sa xs ns b y):Sa xs ns (aN f a b) z:=q4 h g λu v w s e e'=>⟨_,List.mem_singleton_self _,s,k v w e e'⟩
theorem Sa.aC{a b:Al}{x y:Int}{f:Ln->Ln->Ln×Ln}(k:∀ p q,ev xs ns p=x->ev xs ns q=y->(y<=x->ev xs ns (f p q).1=z)/\(x<=y->ev xs ns (f p q).2=z))(h:Sa xs ns a x)(g:Sa xs ns b y):Sa xs ns (aC f a b) z:=q4 h g λu v w s e e'=>(Int.le_total y x).elim
  (λl=>⟨_,.head _,s.sn (qF xs ns v w▸jr (e▸e'▸l)),(k v w e e').1 l⟩) λl=>⟨_,.tail _ (.head _),s.sn (qF xs ns w v▸jr (e▸e'▸l)),(k v w e e').2 l⟩
theorem al_ok(c:Nat){a b:Al×Al}{x y:Nat×Int}(h:S2 xs ns a x)(g:S2 xs ns b y):S2 xs ns (al c a b) (op c x y):=by
 have A:∀ {x y:Int} (p q:Ln),ev xs ns p=x->ev xs ns q=y->ev xs ns (la p q)=x+y:=λp q e e'=>by rw[aD7,e,e']
 have S:∀ {x y:Int} (p q:Ln),ev xs ns p=x->ev xs ns q=y->ev xs ns (ls p q)=x-y:=λp q e e'=>by rw[qF,e,e']
 have M:∀ (k:Int){x y:Int} (p q:Ln),ev xs ns p=x->ev xs ns q=y->ev xs ns (lm k p)=k*x:=λk _ _ p q e e'=>by rw[aD6,e]
 cases c with
 |zero=>exact⟨h.1.aN A g.1,h.2.aN A g.2⟩
 |succ c=>cases c with
  |zero=>exact⟨Sa.aC (f:=λp q=>(ls p q,lk 0)) (λp q e e'=>⟨λl=>(S p q e e').trans (Int.ofNat_sub (qc.mp l)).symm,λl=>(oM _ _ _).trans (bg Nat.cast (Nat.sub_eq_zero_of_le (qc.mp l)).symm)⟩) h.1 g.1,h.2.aN S g.2⟩
  |succ c=>cases c with
   |zero=>exact⟨h.1.aC (λp q e e'=>⟨λl=>e.trans (bg Nat.cast (Nat.max_eq_left (qc.mp l)).symm),λl=>e'.trans (bg Nat.cast (Nat.max_eq_right (qc.mp l)).symm)⟩) g.1,
     h.2.aC (λp q e e'=>⟨λl=>e.trans (on l).symm,λl=>e'.trans (Int.max_eq_right l).symm⟩) g.2⟩
   |succ c=>cases c with
    |zero=>exact⟨h.1.aC (f:=λp q=>(q,p)) (λp q e e'=>⟨λl=>e'.trans (bg Nat.cast (Nat.min_eq_right (qc.mp l)).symm),λl=>e.trans (bg Nat.cast (Nat.min_eq_left (qc.mp l)).symm)⟩) g.1,
      h.2.aC (f:=λp q=>(q,p)) (λp q e e'=>⟨λl=>e'.trans (Int.min_eq_right l).symm,λl=>e.trans (Int.min_eq_left l).symm⟩) g.2⟩
    |succ c=>cases c with
     |zero=>exact⟨h.2.aC (f:=λp q=>(p,lk 0)) (λp q e e'=>⟨λl=>e.trans (Int.toNat_of_nonneg l).symm,λl=>(oM _ _ _).trans (bg Nat.cast (Int.toNat_of_nonpos l).symm)⟩) .zero,h.1⟩
     |succ c=>cases c with
      |zero=>exact⟨.zero,h.2.aN (λp q e e'=>(M (-1) p q e e').trans (by rw[Int.neg_mul,Int.one_mul];rfl)) .zero⟩
      |succ c=>exact⟨h.1.aN (M _) .zero,h.2.aN (M _) .zero⟩
def den(xs:ac Int)(ns:ac Nat)(t:T):Nat×Int:=t.rec (λi=>(ns.getD i 0,xs.getD i 0)) (λn=>(n,(n:Int))) λc _ _ x y=>op c x y
def alt(t:T):Al×Al:=t.rec (λi=>([([],0,[],un i)],[([],0,un i,[])])) (λn=>([([],lk n)],[([],lk n)])) λc _ _ x y=>al c x y
theorem aFa(xs:ac Int)(ns:ac Nat)(t:T):S2 xs ns (alt t) (den xs ns t):=by
 induction t with
 |v i=>
  refine⟨.one ?_,.one ?_⟩
  ·refine(th _).trans ((th _).trans ((aEj i _).trans ?_))
   rw[dq,gp];show _=((List.getD ns i 0:Nat):Int);rw[dq];cases ns[i]? <;>rfl
  ·exact(th _).trans ((bg (_+ ·) rfl).trans ((qa _).trans (aEj i xs)))
 |k n=>exact⟨.one (oM ..),.one (oM ..)⟩
 |o c x y h g=>exact al_ok c h g
def rL(a b:Al)(l:Ln->Ln->ac (ac Ln)):ac (ac Ln):=pr (λg p q=>(l p q).map (g++ ·)) a b
def dP(xs:ac Int)(ns:ac Nat)(t:T):Prop:=t.rec (λ_=>fe) (λ_=>fe) λc x y p q=>
 List.getD [(den xs ns x).1<=(den xs ns y).1,(den xs ns x).1=(den xs ns y).1,(den xs ns x).2<=(den xs ns y).2,(den xs ns x).2=(den xs ns y).2,¬p,p/\q,p\/q] c (p->q)
def cr(p q:ac (ac Ln)):ac (ac Ln):=p.flatMap λg=>q.map (g++ ·)
def aC0(p q:Ln):ac (ac Ln):=[[ls q p]]
def aC1(p q:Ln):ac (ac Ln):=[[ls (ls p q) (lk 1)]]
def aEb(p q:Ln):ac (ac Ln):=[[ls q p,ls p q]]
def aEc(p q:Ln):ac (ac Ln):=[[ls (ls p q) (lk 1)],[ls (ls q p) (lk 1)]]
def dn(t:T):ac (ac Ln)×ac (ac Ln):=t.rec (λ_=>([],[[]])) (λ_=>([],[[]])) λc x y p q=>
 List.getD [(rL (alt x).1 (alt y).1 aC0,rL (alt x).1 (alt y).1 aC1),(rL (alt x).1 (alt y).1 aEb,rL (alt x).1 (alt y).1 aEc),(rL (alt x).2 (alt y).2 aC0,rL (alt x).2 (alt y).2 aC1),
  (rL (alt x).2 (alt y).2 aEb,rL (alt x).2 (alt y).2 aEc),(p.2,p.1),(cr p.1 q.1,p.2++q.2),(p.1++q.1,cr p.2 q.2)] c (p.2++q.1,cr p.1 q.2)
theorem Sd.app{p q:ac (ac Ln)}(h:Sd xs ns p\/Sd xs ns q):Sd xs ns (p++q):=h.elim (fun⟨g,m,s⟩=>⟨g,List.mem_append_left _ m,s⟩) fun⟨g,m,s⟩=>⟨g,List.mem_append_right _ m,s⟩
theorem Sd.cr{p q:ac (ac Ln)}(h:Sd xs ns p)(k:Sd xs ns q):Sd xs ns (cr p q):=h.elim λg h=>k.elim λg' k=>⟨g++g',List.mem_flatMap.mpr ⟨g,h.1,we.mpr ⟨g',k.1,rfl⟩⟩,h.2.app k.2⟩
theorem w9{a b:Al}{x y:Int}{l:Ln->Ln->ac (ac Ln)}(h:Sa xs ns a x)(g:Sa xs ns b y)(k:∀ p q,ev xs ns p=x->ev xs ns q=y->Sd xs ns (l p q)):Sd xs ns (rL a b l):=q4 h g λu v w s e e'=>(k v w e e').elim λg h=>⟨_,we.mpr ⟨g,h.1,rfl⟩,s.app h.2⟩
theorem aCr{x y:Int}{p q:Ln}(e:ev xs ns p=x)(e':ev xs ns q=y)(h:y<x):Sg xs ns [ls (ls p q) (lk 1)]:=λ_ m=>by rw[cy.mp m,qF,qF,oM,e,e'];exact jr (Int.le_sub_left_of_add_le h)
theorem aCz{x y:Int}{p q:Ln}(e:ev xs ns p=x)(e':ev xs ns q=y)(h:y<=x):0<=ev xs ns (ls p q):=by rw[qF,e,e'];exact jr h
theorem aCy{a b:Al}{x y:Int}(h:Sa xs ns a x)(g:Sa xs ns b y):(x<=y->Sd xs ns (rL a b aC0))/\(¬x<=y->Sd xs ns (rL a b aC1)):=⟨λl=>w9 h g λp q e e'=>⟨_,.head _,λ_ m=>cy.mp m▸aCz e' e l⟩,λl=>w9 h g λp q e e'=>⟨_,.head _,aCr e e' (Int.not_le.mp l)⟩⟩
theorem aEa{a b:Al}{x y:Int}(h:Sa xs ns a x)(g:Sa xs ns b y):(x=y->Sd xs ns (rL a b aEb))/\(¬x=y->Sd xs ns (rL a b aEc)):=⟨λl=>w9 h g λp q e e'=>⟨_,.head _,Sg.sn (λ_ m=>cy.mp m▸aCz e' e (xl l)) (aCz e e' (xl l.symm))⟩,
  λl=>w9 h g λp q e e'=>(Int.lt_or_gt_of_ne l).elim (λl=>⟨_,.tail _ (.head _),aCr e' e l⟩) λl=>⟨_,.head _,aCr e e' l⟩⟩
theorem dn_ok(t:T):(dP xs ns t->Sd xs ns (dn t).1)/\(¬dP xs ns t->Sd xs ns (dn t).2):=by
 induction t with
 |v i=>exact⟨False.elim,λ_=>⟨_,.head _,.nil⟩⟩
 |k n=>exact⟨False.elim,λ_=>⟨_,.head _,.nil⟩⟩
 |o c x y h g=>
  have X:=aFa xs ns x
  have Y:=aFa xs ns y
  cases c with
  |zero=>exact⟨λl=>(aCy X.1 Y.1).1 (qc.mpr l),λl=>(aCy X.1 Y.1).2 λz=>l (qc.mp z)⟩
  |succ c=>cases c with
   |zero=>exact⟨λl=>(aEa X.1 Y.1).1 (bg Nat.cast l),λl=>(aEa X.1 Y.1).2 λz=>l (Int.ofNat.inj z)⟩
   |succ c=>cases c with
    |zero=>exact aCy X.2 Y.2
    |succ c=>cases c with
     |zero=>exact aEa X.2 Y.2
     |succ c=>cases c with
      |zero=>exact⟨h.2,λl=>h.1 (Classical.not_not.mp l)⟩
      |succ c=>cases c with
       |zero=>exact⟨λl=>(h.1 l.1).cr (g.1 l.2),λl=>.app ((Classical.not_and_iff_not_or_not.mp l).imp h.2 g.2)⟩
       |succ c=>cases c with
        |zero=>exact⟨λl=>.app (l.imp h.1 g.1),λl=>(h.2 λz=>l (.inl z)).cr (g.2 λz=>l (.inr z))⟩
        |succ c=>exact⟨λl=>.app ((Classical.em _).elim (λz=>.inr (g.1 (l z))) λz=>.inl (h.2 z)),λl=>(h.1 (Classical.not_imp.mp l).1).cr (g.2 (Classical.not_imp.mp l).2)⟩
def ct(f:Nat):Nat->Nat×Nat:=f.rec (λs=>(0,s)) λ_ r s=>cond (beq (s%2) 0) (0,s/2) ((r (s/2)).1+1,(r (s/2)).2)
def sm(g:ac Ln):Nat->Ln×Nat:=g.rec (λs=>(lk 0,s)) λl _ r s=>(la (lm ((ct 64 s).1:Nat) l) (r (ct 64 s).2).1,(r (ct 64 s).2).2)
def ng(b:Int->dj)(l:ac Int):dj:=l.rec ag λc _ r=>cond (b c) r af
def gd(l:Ln):dj:=cond (decide (l.1<0)) (cond (ng (λc=>decide (c=0)) l.2.1) (ng (λc=>decide (c<=0)) l.2.2) af) af
def ck(d:ac (ac Ln)):Nat->dj:=d.rec (λ_=>ag) λg _ r s=>cond (gd (sm g s).1) (r (sm g s).2) af
theorem fX{a b:dj}(h:cond a b af=ag):a=ag/\b=ag:=by
 cases a with
 |true=>exact⟨rfl,h⟩
 |false=>exact ba h Bool.false_ne_true
theorem sm_ok{g:ac Ln}:∀ (s:Nat),Sg xs ns g->0<=ev xs ns (sm g s).1:=by
 induction g with
 |nil=>exact λs _=>xl (oM xs ns 0).symm
 |cons l g ih=>
  intro s h
  show 0<=ev xs ns (la (lm _ l) (sm g _).1)
  rw[aD7,aD6]
  exact Int.add_nonneg (Int.mul_nonneg (cj _) (h l (.head _))) (ih _ λq m=>h q (.tail _ m))
theorem ng_le{b:Int->dj}{l:ac Int}(k:∀ c x,b c=ag->0<=x->c*x<=0):∀ (x:ac Int),(∀ y∈x,0<=y)->ng b l=ag->dot l x<=0:=by
 induction l with
 |nil=>exact λ_ _ _=>Int.le_refl _
 |cons c l ih=>
  intro x h e
  cases x with
  |nil=>exact Int.le_refl _
  |cons x xs=>exact Int.add_nonpos (k c x (fX e).1 (h x (.head _))) (ih xs (λy m=>h y (.tail _ m)) (fX e).2)
theorem aGj{l:ac Int}:∀ (x:ac Int),ng (λc=>decide (c=0)) l=ag->dot l x<=0:=by
 induction l with
 |nil=>exact λ_ _=>Int.le_refl _
 |cons c l ih=>
  intro x e
  cases x with
  |nil=>exact Int.le_refl _
  |cons x xs=>exact Int.add_nonpos (xl (cx (fX e).1▸Int.zero_mul x)) (ih xs (fX e).2)
theorem gd_no{l:Ln}(h:gd l=ag): ¬0<=ev xs ns l:=λg=>
 ba (bw g (Int.add_le_add_left (Int.add_nonpos (aGj xs (fX (fX h).2).1)
  (ng_le (λc x e h=>Int.mul_nonpos_of_nonpos_of_nonneg (cx e) h) (ns.map Nat.cast) (λy m=>by obtain⟨n,_,e⟩:=we.mp m;exact e▸cj n) (fX (fX h).2).2)) l.1))
  (Int.not_le.mpr (by rw[qa];exact cx (fX h).1))
theorem ck_no{d:ac (ac Ln)}:∀ {s:Nat},ck d s=ag->¬Sd xs ns d:=by
 induction d with
 |nil=>exact λ_ ⟨_,m,_⟩=>ba m fg
 |cons g d ih=>
  intro s h ⟨g',m,k⟩
  cases m with
  |head=>exact gd_no (fX h).1 (sm_ok s k)
  |tail _ m=>exact ih (fX h).2 ⟨g',m,k⟩
def lit(f:Nat):Nat->Nat×Nat:=f.rec (λs=>(0,s)) λ_ r s=>cond (ble 32 (s%64)) ((s%64-32)+32*(r (s/64)).1,(r (s/64)).2) (s%64,s/64)
def dec(f:Nat):Nat->T×Nat:=f.rec (λs=>(.v 0,s)) λ_ r s=>
 cond (ble 40 (s%64)) (cond (ble 61 (s%64)) ((lit 30 (s/64)).rec λn s'=>cond (ble (s%64) 61) (.k n,s') ((r s').rec λx s=>(.o (n+32) x x,s))) (.v (s%64-40),s/64))
  ((r (s/64)).rec λx s'=>(r s').rec λy s''=>(.o (s%64) x y,s''))
theorem R(k:Nat)(xs:ac Int)(ns:ac Nat)(h:dP xs ns (dec 99 k).1=P:=by kernel_rfl)(c:ck (dn (dec 99 k).1).2 (dec 99 k).2=ag:=by kernel_rfl):P:=h▸Classical.not_not.mp λz=>ck_no c ((dn_ok _).2 z)
end Z
theorem zzI(k:Nat)(xs:ac Int)(h:Z.dP xs [] (Z.dec 99 k).1=P:=by kernel_rfl)(c:Z.ck (Z.dn (Z.dec 99 k).1).2 (Z.dec 99 k).2=ag:=by kernel_rfl):P:=Z.R k xs [] h c
theorem zzM(k:Nat)(ns:ac Nat)(h:Z.dP [] ns (Z.dec 99 k).1=P:=by kernel_rfl)(c:Z.ck (Z.dn (Z.dec 99 k).1).2 (Z.dec 99 k).2=ag:=by kernel_rfl):P:=Z.R k [] ns h c
theorem xA{G:Prop}(h:p0/\p1)(k:p0->p1->G):G:=k h.1 h.2
theorem xE{p0:α->Prop}{G:Prop}(h:∃ a0:α,p0 a0)(k:∀ a0,p0 a0->G):G:=h.elim λa0 h1=>k a0 h1
theorem xAA{G:Prop}(h:p0/\p1/\p2)(k:p0->p1->p2->G):G:=k h.1 h.2.1 h.2.2
theorem xAE{p1:α->Prop}{G:Prop}(h:p0/\∃ a0:α,p1 a0)(k:p0->∀ a0,p1 a0->G):G:=h.2.elim λa0 h1=>k h.1 a0 h1
theorem xEA{p0 p1:α->Prop}{G:Prop}(h:∃ a0:α,p0 a0/\p1 a0)(k:∀ a0,p0 a0->p1 a0->G):G:=h.elim λa0 h1=>k a0 h1.1 h1.2
theorem xEE{p0:α->β->Prop}{G:Prop}(h:∃ a0:α,∃ a1:β,p0 a0 a1)(k:∀ a0,∀ a1,p0 a0 a1->G):G:=h.elim λa0 h1=>h1.elim λa1 h2=>k a0 a1 h2
theorem xAAA{G:Prop}(h:p0/\p1/\p2/\p3)(k:p0->p1->p2->p3->G):G:=k h.1 h.2.1 h.2.2.1 h.2.2.2
theorem xAEA{p1 p2:α->Prop}{G:Prop}(h:p0/\∃ a0:α,p1 a0/\p2 a0)(k:p0->∀ a0,p1 a0->p2 a0->G):G:=h.2.elim λa0 h1=>k h.1 a0 h1.1 h1.2
theorem cX{p0 p1 p2:α->Prop}{G:Prop}(h:∃ a0:α,p0 a0/\p1 a0/\p2 a0)(k:∀ a0,p0 a0->p1 a0->p2 a0->G):G:=h.elim λa0 h1=>k a0 h1.1 h1.2.1 h1.2.2
theorem iQ{p0 p1:α->β->Prop}{G:Prop}(h:∃ a0:α,∃ a1:β,p0 a0 a1/\p1 a0 a1)(k:∀ a0,∀ a1,p0 a0 a1->p1 a0 a1->G):G:=h.elim λa0 h1=>h1.elim λa1 h2=>k a0 a1 h2.1 h2.2
theorem vC{p0:α->β->γ->Prop}{G:Prop}(h:∃ a0:α,∃ a1:β,∃ a2:γ,p0 a0 a1 a2)(k:∀ a0,∀ a1,∀ a2,p0 a0 a1 a2->G):G:=h.elim λa0 h1=>h1.elim λa1 h2=>h2.elim λa2 h3=>k a0 a1 a2 h3
theorem xAAAA{G:Prop}(h:p0/\p1/\p2/\p3/\p4)(k:p0->p1->p2->p3->p4->G):G:=k h.1 h.2.1 h.2.2.1 h.2.2.2.1 h.2.2.2.2
theorem pS{p2 p3:α->Prop}{G:Prop}(h:p0/\p1/\∃ a0:α,p2 a0/\p3 a0)(k:p0->p1->∀ a0,p2 a0->p3 a0->G):G:=h.2.2.elim λa0 h1=>k h.1 h.2.1 a0 h1.1 h1.2
theorem xEAAA{p0 p1 p2 p3:α->Prop}{G:Prop}(h:∃ a0:α,p0 a0/\p1 a0/\p2 a0/\p3 a0)(k:∀ a0,p0 a0->p1 a0->p2 a0->p3 a0->G):G:=h.elim λa0 h1=>k a0 h1.1 h1.2.1 h1.2.2.1 h1.2.2.2
theorem wW{p0 p1:α->Prop}{p2:α->β->Prop}{G:Prop}(h:∃ a0:α,p0 a0/\p1 a0/\∃ a1:β,p2 a0 a1)(k:∀ a0,p0 a0->p1 a0->∀ a1,p2 a0 a1->G):G:=h.elim λa0 h1=>h1.2.2.elim λa1 h2=>k a0 h1.1 h1.2.1 a1 h2
theorem aAm{p0:α->Prop}{p1 p2:α->β->Prop}{G:Prop}(h:∃ a0:α,p0 a0/\∃ a1:β,p1 a0 a1/\p2 a0 a1)(k:∀ a0,p0 a0->∀ a1,p1 a0 a1->p2 a0 a1->G):G:=h.elim λa0 h1=>h1.2.elim λa1 h2=>k a0 h1.1 a1 h2.1 h2.2
theorem bZ{p0 p1 p2:α->β->Prop}{G:Prop}(h:∃ a0:α,∃ a1:β,p0 a0 a1/\p1 a0 a1/\p2 a0 a1)(k:∀ a0,∀ a1,p0 a0 a1->p1 a0 a1->p2 a0 a1->G):G:=h.elim λa0 h1=>h1.elim λa1 h2=>k a0 a1 h2.1 h2.2.1 h2.2.2
theorem iI{p0 p1:α->β->γ->Prop}{G:Prop}(h:∃ a0:α,∃ a1:β,∃ a2:γ,p0 a0 a1 a2/\p1 a0 a1 a2)(k:∀ a0,∀ a1,∀ a2,p0 a0 a1 a2->p1 a0 a1 a2->G):G:=h.elim λa0 h1=>h1.elim λa1 h2=>h2.elim λa2 h3=>k a0 a1 a2 h3.1 h3.2
theorem xEEEE{p0:α->β->γ->δ->Prop}{G:Prop}(h:∃ a0:α,∃ a1:β,∃ a2:γ,∃ a3:δ,p0 a0 a1 a2 a3)(k:∀ a0,∀ a1,∀ a2,∀ a3,p0 a0 a1 a2 a3->G):G:=h.elim λa0 h1=>h1.elim λa1 h2=>h2.elim λa2 h3=>h3.elim λa3 h4=>k a0 a1 a2 a3 h4
theorem xAAAEA{p3 p4:α->Prop}{G:Prop}(h:p0/\p1/\p2/\∃ a0:α,p3 a0/\p4 a0)(k:p0->p1->p2->∀ a0,p3 a0->p4 a0->G):G:=h.2.2.2.elim λa0 h1=>k h.1 h.2.1 h.2.2.1 a0 h1.1 h1.2
theorem vD{p2 p3 p4:α->Prop}{G:Prop}(h:p0/\p1/\∃ a0:α,p2 a0/\p3 a0/\p4 a0)(k:p0->p1->∀ a0,p2 a0->p3 a0->p4 a0->G):G:=h.2.2.elim λa0 h1=>k h.1 h.2.1 a0 h1.1 h1.2.1 h1.2.2
theorem jU{p2 p3:α->β->Prop}{G:Prop}(h:p0/\p1/\∃ a0:α,∃ a1:β,p2 a0 a1/\p3 a0 a1)(k:p0->p1->∀ a0,∀ a1,p2 a0 a1->p3 a0 a1->G):G:=h.2.2.elim λa0 h1=>h1.elim λa1 h2=>k h.1 h.2.1 a0 a1 h2.1 h2.2
theorem aAn{p0 p1 p2 p3 p4:α->Prop}{G:Prop}(h:∃ a0:α,p0 a0/\p1 a0/\p2 a0/\p3 a0/\p4 a0)(k:∀ a0,p0 a0->p1 a0->p2 a0->p3 a0->p4 a0->G):G:=h.elim λa0 h1=>k a0 h1.1 h1.2.1 h1.2.2.1 h1.2.2.2.1 h1.2.2.2.2
theorem xEEAAA{p0 p1 p2 p3:α->β->Prop}{G:Prop}(h:∃ a0:α,∃ a1:β,p0 a0 a1/\p1 a0 a1/\p2 a0 a1/\p3 a0 a1)(k:∀ a0,∀ a1,p0 a0 a1->p1 a0 a1->p2 a0 a1->p3 a0 a1->G):G:=h.elim λa0 h1=>h1.elim λa1 h2=>k a0 a1 h2.1 h2.2.1 h2.2.2.1 h2.2.2.2
theorem gD{p0 p1 p2:α->β->γ->Prop}{G:Prop}(h:∃ a0:α,∃ a1:β,∃ a2:γ,p0 a0 a1 a2/\p1 a0 a1 a2/\p2 a0 a1 a2)(k:∀ a0,∀ a1,∀ a2,p0 a0 a1 a2->p1 a0 a1 a2->p2 a0 a1 a2->G):G:=h.elim λa0 h1=>h1.elim λa1 h2=>h2.elim λa2 h3=>k a0 a1 a2 h3.1 h3.2.1 h3.2.2
theorem mT{p0 p1:α->β->γ->δ->Prop}{G:Prop}(h:∃ a0:α,∃ a1:β,∃ a2:γ,∃ a3:δ,p0 a0 a1 a2 a3/\p1 a0 a1 a2 a3)(k:∀ a0,∀ a1,∀ a2,∀ a3,p0 a0 a1 a2 a3->p1 a0 a1 a2 a3->G):G:=h.elim λa0 h1=>h1.elim λa1 h2=>h2.elim λa2 h3=>h3.elim λa3 h4=>k a0 a1 a2 a3 h4.1 h4.2
theorem aFe{p2:α->Prop}{p3 p4:α->β->Prop}{G:Prop}(h:p0/\p1/\∃ a0:α,p2 a0/\∃ a1:β,p3 a0 a1/\p4 a0 a1)(k:p0->p1->∀ a0,p2 a0->∀ a1,p3 a0 a1->p4 a0 a1->G):G:=h.2.2.elim λa0 h1=>h1.2.elim λa1 h2=>k h.1 h.2.1 a0 h1.1 a1 h2.1 h2.2
theorem qP{p2 p3:α->β->γ->Prop}{G:Prop}(h:p0/\p1/\∃ a0:α,∃ a1:β,∃ a2:γ,p2 a0 a1 a2/\p3 a0 a1 a2)(k:p0->p1->∀ a0,∀ a1,∀ a2,p2 a0 a1 a2->p3 a0 a1 a2->G):G:=h.2.2.elim λa0 h1=>h1.elim λa1 h2=>h2.elim λa2 h3=>k h.1 h.2.1 a0 a1 a2 h3.1 h3.2
theorem qO{p0 p1 p2 p3 p4 p5:α->Prop}{G:Prop}(h:∃ a0:α,p0 a0/\p1 a0/\p2 a0/\p3 a0/\p4 a0/\p5 a0)(k:∀ a0,p0 a0->p1 a0->p2 a0->p3 a0->p4 a0->p5 a0->G):G:=h.elim λa0 h1=>k a0 h1.1 h1.2.1 h1.2.2.1 h1.2.2.2.1 h1.2.2.2.2.1 h1.2.2.2.2.2
theorem cN{p0 p1 p2 p3:α->β->γ->Prop}{G:Prop}(h:∃ a0:α,∃ a1:β,∃ a2:γ,p0 a0 a1 a2/\p1 a0 a1 a2/\p2 a0 a1 a2/\p3 a0 a1 a2)(k:∀ a0,∀ a1,∀ a2,p0 a0 a1 a2->p1 a0 a1 a2->p2 a0 a1 a2->p3 a0 a1 a2->G):G:=h.elim λa0 h1=>h1.elim λa1 h2=>h2.elim λa2 h3=>k a0 a1 a2 h3.1 h3.2.1 h3.2.2.1 h3.2.2.2
theorem qN{p0 p1 p2:α->β->γ->δ->Prop}{G:Prop}(h:∃ a0:α,∃ a1:β,∃ a2:γ,∃ a3:δ,p0 a0 a1 a2 a3/\p1 a0 a1 a2 a3/\p2 a0 a1 a2 a3)(k:∀ a0,∀ a1,∀ a2,∀ a3,p0 a0 a1 a2 a3->p1 a0 a1 a2 a3->p2 a0 a1 a2 a3->G):G:=h.elim λa0 h1=>h1.elim λa1 h2=>h2.elim λa2 h3=>h3.elim λa3 h4=>k a0 a1 a2 a3 h4.1 h4.2.1 h4.2.2
theorem mU{p3 p4 p5 p6:α->Prop}{G:Prop}(h:p0/\p1/\p2/\∃ a0:α,p3 a0/\p4 a0/\p5 a0/\p6 a0)(k:p0->p1->p2->∀ a0,p3 a0->p4 a0->p5 a0->p6 a0->G):G:=h.2.2.2.elim λa0 h1=>k h.1 h.2.1 h.2.2.1 a0 h1.1 h1.2.1 h1.2.2.1 h1.2.2.2
theorem mS{p0 p1 p2 p3:α->β->γ->δ->Prop}{G:Prop}(h:∃ a0:α,∃ a1:β,∃ a2:γ,∃ a3:δ,p0 a0 a1 a2 a3/\p1 a0 a1 a2 a3/\p2 a0 a1 a2 a3/\p3 a0 a1 a2 a3)(k:∀ a0,∀ a1,∀ a2,∀ a3,p0 a0 a1 a2 a3->p1 a0 a1 a2 a3->p2 a0 a1 a2 a3->p3 a0 a1 a2 a3->G):G:=h.elim λa0 h1=>h1.elim λa1 h2=>h2.elim λa2 h3=>h3.elim λa3 h4=>k a0 a1 a2 a3 h4.1 h4.2.1 h4.2.2.1 h4.2.2.2
theorem j7{p0 p1:α->β->γ->δ->ε->ζ->Prop}{G:Prop}(h:∃ a0:α,∃ a1:β,∃ a2:γ,∃ a3:δ,∃ a4:ε,∃ a5:ζ,p0 a0 a1 a2 a3 a4 a5/\p1 a0 a1 a2 a3 a4 a5)(k:∀ a0,∀ a1,∀ a2,∀ a3,∀ a4,∀ a5,p0 a0 a1 a2 a3 a4 a5->p1 a0 a1 a2 a3 a4 a5->G):G:=h.elim λa0 h1=>h1.elim λa1 h2=>h2.elim λa2 h3=>h3.elim λa3 h4=>h4.elim λa4 h5=>h5.elim λa5 h6=>k a0 a1 a2 a3 a4 a5 h6.1 h6.2
theorem hI{p2 p3 p4:α->β->γ->δ->ε->Prop}{G:Prop}(h:p0/\p1/\∃ a0:α,∃ a1:β,∃ a2:γ,∃ a3:δ,∃ a4:ε,p2 a0 a1 a2 a3 a4/\p3 a0 a1 a2 a3 a4/\p4 a0 a1 a2 a3 a4)(k:p0->p1->∀ a0,∀ a1,∀ a2,∀ a3,∀ a4,p2 a0 a1 a2 a3 a4->p3 a0 a1 a2 a3 a4->p4 a0 a1 a2 a3 a4->G):G:=h.2.2.elim λa0 h1=>h1.elim λa1 h2=>h2.elim λa2 h3=>h3.elim λa3 h4=>h4.elim λa4 h5=>k h.1 h.2.1 a0 a1 a2 a3 a4 h5.1 h5.2.1 h5.2.2
theorem sX{p0 p1 p2 p3 p4 p5:α->β->γ->δ->ε->Prop}{G:Prop}(h:∃ a0:α,∃ a1:β,∃ a2:γ,∃ a3:δ,∃ a4:ε,p0 a0 a1 a2 a3 a4/\p1 a0 a1 a2 a3 a4/\p2 a0 a1 a2 a3 a4/\p3 a0 a1 a2 a3 a4/\p4 a0 a1 a2 a3 a4/\p5 a0 a1 a2 a3 a4)(k:∀ a0,∀ a1,∀ a2,∀ a3,∀ a4,p0 a0 a1 a2 a3 a4->p1 a0 a1 a2 a3 a4->p2 a0 a1 a2 a3 a4->p3 a0 a1 a2 a3 a4->p4 a0 a1 a2 a3 a4->p5 a0 a1 a2 a3 a4->G):G:=h.elim λa0 h1=>h1.elim λa1 h2=>h2.elim λa2 h3=>h3.elim λa3 h4=>h4.elim λa4 h5=>k a0 a1 a2 a3 a4 h5.1 h5.2.1 h5.2.2.1 h5.2.2.2.1 h5.2.2.2.2.1 h5.2.2.2.2.2
theorem hF{p0 p1 p2 p3 p4 p5 p6 p7:α->β->γ->δ->Prop}{G:Prop}(h:∃ a0:α,∃ a1:β,∃ a2:γ,∃ a3:δ,p0 a0 a1 a2 a3/\p1 a0 a1 a2 a3/\p2 a0 a1 a2 a3/\p3 a0 a1 a2 a3/\p4 a0 a1 a2 a3/\p5 a0 a1 a2 a3/\p6 a0 a1 a2 a3/\p7 a0 a1 a2 a3)(k:∀ a0,∀ a1,∀ a2,∀ a3,p0 a0 a1 a2 a3->p1 a0 a1 a2 a3->p2 a0 a1 a2 a3->p3 a0 a1 a2 a3->p4 a0 a1 a2 a3->p5 a0 a1 a2 a3->p6 a0 a1 a2 a3->p7 a0 a1 a2 a3->G):G:=h.elim λa0 h1=>h1.elim λa1 h2=>h2.elim λa2 h3=>h3.elim λa3 h4=>k a0 a1 a2 a3 h4.1 h4.2.1 h4.2.2.1 h4.2.2.2.1 h4.2.2.2.2.1 h4.2.2.2.2.2.1 h4.2.2.2.2.2.2.1 h4.2.2.2.2.2.2.2
theorem gC{p0:α->β->γ->δ->ε->ζ->η->θ->ι->κ->μ->ν->Prop}{G:Prop}(h:∃ a0:α,∃ a1:β,∃ a2:γ,∃ a3:δ,∃ a4:ε,∃ a5:ζ,∃ a6:η,∃ a7:θ,∃ a8:ι,∃ a9:κ,∃ a10:μ,∃ a11:ν,p0 a0 a1 a2 a3 a4 a5 a6 a7 a8 a9 a10 a11)(k:∀ a0,∀ a1,∀ a2,∀ a3,∀ a4,∀ a5,∀ a6,∀ a7,∀ a8,∀ a9,∀ a10,∀ a11,p0 a0 a1 a2 a3 a4 a5 a6 a7 a8 a9 a10 a11->G):G:=h.elim λa0 h1=>h1.elim λa1 h2=>h2.elim λa2 h3=>h3.elim λa3 h4=>h4.elim λa4 h5=>h5.elim λa5 h6=>h6.elim λa6 h7=>h7.elim λa7 h8=>h8.elim λa8 h9=>h9.elim λa9 h10=>h10.elim λa10 h11=>h11.elim λa11 h12=>k a0 a1 a2 a3 a4 a5 a6 a7 a8 a9 a10 a11 h12
theorem A0:m+(10*n)<=700->m<1000:=zzM 0x57e8f41f6800057cf692bea00007 [m,n]
theorem A1:m+(40*n)<=8000->m+64<9900:=zzM 0x149d6cf41f4283da000001fa83da41a3ea00007 [m,n]
theorem A2:m<100->m<=16777216:=zzM 0x150820820f6800393d07da00007 [m]
theorem A3:m<1000000->m<=16777216:=zzM 0x150820820f6801ec3283d07da00007 [m]
theorem A4:m+n<1000000->p=m->q=n->p+q<=16777216:=zzM 0x4950820820f6ba80029ac11e8a811dec3283d07da68000007 [m,n,p,q]
theorem A5:(((0:Int)<=a+((m:Nat):Int))/\(a+((m:Nat):Int)<((m:Nat):Int)))->(a<0)/\((-((m:Nat):Int)<=a)/\((Int.toNat (a+((m:Nat):Int))=Int.toNat (a+((m:Nat):Int)))/\(Int.toNat (a+((m:Nat):Int))<m))):=Z.R 0x254904122142a10412aa01f68a28128004000a28a04a00128a28128004045a28a2810508503d07da00085a28101f68a04a00002a28128000f42147 [a] [m]
theorem A6:(((0:Int)<=a)/\(a<((m:Nat):Int)))->((0:Int)<=a)/\((Int.toNat a=Int.toNat a)/\(Int.toNat a<m)):=Z.R 0x4a9208245091420826807da28100028a04a2810116803d085a28101f68002a00f42147 [a] [m]
theorem A7:m=n-> -((n:Nat):Int)<=a-> -((m:Nat):Int)<=a:=Z.R 0xaa8a28a04142a28a29105087a68047 [a] [m,n]
theorem A9: ¬(m-1<n)->n<=m-1:=zzM 0x1254a9207da01a40a2907d07da01000107 [m,n]
theorem A10:((-1000000):Int)<a->b<1000000->Int.toNat (b-a)<2000000:=zzI 0x10941f61920f41f68a290440007b0ca0f41f690021e807da1ec3283d140087 [a,b]
theorem A11:a<1000000->((-1000000):Int)<b->Int.toNat (b-a)<2000000->((((((-9223372036854775808):Int)<=a)/\(a<9223372036854775808))/\((((-9223372036854775808):Int)<=b)/\(b<9223372036854775808)))/\((((-9223372036854775808):Int)<=max (b-a) 0)/\(max (b-a) 0<9223372036854775808)))/\((max (b-a) 0=0)\/((((-9223372036854775808):Int)<=b)/\(b<9223372036854775808))):=zzI 0x10101010140a04422204440a092890a5101010101108888a090242044514485488820820820820820820f41f69002a6822082082082082082083d142140f40f68a41083188820820820820820820f41f40f68a41080080f68a410a822082082082082082083d142148820820820820820820f41f69002a6822082082082082082083d142148820820820820820820f41f68002a2822082082082082082083d14214514507d86483d07da28a41100007a41f687b0ca0f450021dec3283d07da00087 [a,b]
theorem A12:m<1000000->n=m->n<=16777216:=zzM 0x950820820f69028a411dec3283d07da00007 [m,n]
theorem A13: ¬((1:Int)<0):=zzM 0x1a00f41f41f40084 []
theorem A14: ¬(((m:Nat):Int)<0):=zzM 0x6803d07da28100084 [m]
theorem A15:(0:Int)<1:=zzM 0x107d07d03d002 []
theorem A16:m<=n->min (p-q) (m-q)<=n:=zzM 0x20820a1420a2869ae806ba810c0a68007 [m,n,p,q]
theorem A17:(1:Nat)<=m->¬(((m:Nat):Int)=0):=zzM 0x16803da2810312807d007 [m]
theorem A18:(((1:Int)<=a)/\((a<=b)/\((b<=((m:Nat):Int))/\(m<1000))))->(0:Int)<=a:=Z.R 0x21a00f427e8f41f68000a28129085a68085a01f42147 [a,b] [m]
theorem A19:(((1:Int)<=((m:Nat):Int))/\((((m:Nat):Int)<=a)/\((a<=((n:Nat):Int))/\(n<1000))))->(0:Int)<=a:=Z.R 0x45a00f427e8f41f69000a29128085a28a04085a28101f42147 [a] [m,n]
theorem A20:(((1:Int)<=((m:Nat):Int))/\((((m:Nat):Int)<=((n:Nat):Int))/\((((n:Nat):Int)<=((p:Nat):Int))/\(p<1000))))->(1:Nat)<=m:=zzM 0x21a01f407e8f41f6a000a2a128a44085a29128a04085a28101f42147 [m,n,p]
theorem A21:(((1:Int)<=((m:Nat):Int))/\((((m:Nat):Int)<=((n:Nat):Int))/\((((n:Nat):Int)<=((p:Nat):Int))/\(p<1000))))->m<=n:=zzM 0x8a9a007e8f41f6a000a2a128a44085a29128a04085a28101f42147 [m,n,p]
theorem A22:m=n->(((1:Int)<=((p:Nat):Int))/\((((p:Nat):Int)<=((q:Nat):Int))/\((((q:Nat):Int)<=((n:Nat):Int))/\(n<1000))))->q<=m:=zzM 0x48a8ac07e8f41f69000a29128ac4085a2b128a84085a2a101f42147a68047 [m,n,p,q]
theorem A23:m=n->(((1:Int)<=((p:Nat):Int))/\((((p:Nat):Int)<=((q:Nat):Int))/\((((q:Nat):Int)<=((n:Nat):Int))/\(n<1000))))->m<=16777216:=zzM 0x14142082083da007e8f41f69000a29128ac4085a2b128a84085a2a101f42147a68047 [m,n,p,q]
theorem A24:(((1:Int)<=a)/\((a<=((m:Nat):Int))/\(m<1000)))->(0:Int)<=a:=Z.R 0x11a00f427e8f41f68000a28128085a01f42147 [a] [m]
theorem A25:(((1:Int)<=((m:Nat):Int))/\((((m:Nat):Int)<=((n:Nat):Int))/\(n<1000)))->(1:Nat)<=m:=zzM 0x11a01f407e8f41f69000a29128a04085a28101f42147 [m,n]
theorem A26:m=n->(((1:Int)<=((p:Nat):Int))/\((((p:Nat):Int)<=((n:Nat):Int))/\(n<1000)))->p<=m:=zzM 0x24a8a807e8f41f69000a29128a84085a2a101f42147a68047 [m,n,p]
theorem A27:m=n->(((1:Int)<=((p:Nat):Int))/\((((p:Nat):Int)<=((n:Nat):Int))/\(n<1000)))->m<=16777216:=zzM 0xa142082083da007e8f41f69000a29128a84085a2a101f42147a68047 [m,n,p]
theorem A28:m<50->n+(40*p)<=8000->n+1+(min q m)<9900:=zzM 0xaa949d6cf41f68ac307da40000007ea0f6a068fa90001c1cbd07da00007 [m,n,p,q]
theorem A29:m<1000000->n<=m->n<=16777216:=zzM 0x550820820f69028a401dec3283d07da00007 [m,n]
theorem A30:m+(10*(n+1))<=700->m+1+(10*n)<=700:=zzM 0x155f3da4af81f68000015f3d07da402bea00007 [m,n]
theorem A31:m+(40*(n+1))<=8000->m+3+(40*n)<=8000:=zzM 0x147ea0f69068f83f68000007ea0f41f69001a3ea00007 [m,n]
theorem A32:m+1<=n->m<=n:=zzM 0x5a6802907da00007 [m,n]
theorem A33:m=n->n<1000000->m<=16777216:=zzM 0xa50820820f6801ec3283d07da40007a68047 [m,n]
theorem A34:m+(10*(n+1))<=700->m+0+1+(10*n)<=700:=zzM 0x557cf692be07d03da00000015f3d07da402bea00007 [m,n]
theorem A35:m+(40*(n+1))<=8000->m+0+3+(40*n)<=8000:=zzM 0x51fa83da41a3e0fd03da00000007ea0f41f69001a3ea00007 [m,n]
theorem A36:m+(10*(n+1))<=700->m+(1+0)+0+(10*n)<=700:=zzM 0x155f3da4af80f40f41f40a00000015f3d07da402bea00007 [m,n]
theorem A37:m+(40*(n+1))<=8000->m+(3+0)+0+(40*n)<=8000:=zzM 0x147ea0f69068f80f40f43f40a00000007ea0f41f69001a3ea00007 [m,n]
theorem A38:m+(10*(n+2))<=700->m+(10*(n+1))<=700:=zzM 0x155f3d07da402bea00015f3d0bda402bea00007 [m,n]
theorem A39:m+(40*(n+2))<=8000->m+1+(40*(n+1))<=8000:=zzM 0x51fa83d07da40068f81f68000007ea0f42f69001a3ea00007 [m,n]
theorem A40:m+2<=n->p+(10*n)<=700->p+(10*(m+2))<=700:=zzM 0xaffd5f3d0bda002bea80015f3da4afaa0001e90bda00007 [m,n,p]
theorem A41:m+2<=n->p+(40*n)<=8000->p+(40*(m+2))<=8000:=zzM 0x2bfffffffffc7ea0f42f68001a3ea80007ea0f69068faa0001e90bda00007 [m,n,p]
theorem A42:m+(10*(n+1))<=700->m+(10*n)<=700:=zzM 0x557cf692bea00015f3d07da402bea00007 [m,n]
theorem A43:m+(40*(n+1))<=8000->m+1+1+(40*n)<=8000:=zzM 0x51fa83da41a3e07d07da00000007ea0f41f69001a3ea00007 [m,n]
theorem A44:m+(40*(n+1))<=8000->m+1+(40*n)<=8000:=zzM 0x147ea0f69068f81f68000007ea0f41f69001a3ea00007 [m,n]
theorem A45:((m:Nat):Int)<a->¬(a<=((m:Nat):Int)):=Z.R 0x5a28a04a0212807da28100087 [a] [m]
theorem A46:m+1<=n->p+(10*n)<=700->p+(10*m)<=700:=zzM 0x2bff57cf682bea80015f3da4afaa0001e907da00007 [m,n,p]
theorem A47:m+1<=n->p+(40*n)<=8000->p+1+(40*m)<=8000:=zzM 0x2bfffffffffc7ea0f68068f81f6a000007ea0f69068faa0001e907da00007 [m,n,p]
theorem A48:m=n->n<64->m<=16777216:=zzM 0xa50820820f6800283d07da40007a68047 [m,n]
theorem A49:m<64->n=p->p=m->n<=16777216:=zzM 0x4950820820f69028a811eaa411c283d07da00007 [m,n,p]
theorem A51: ¬(m<2)->(2:Nat)<=m:=zzM 0x5a02f40a02f41f68000107 [m]
theorem A52:a<b->b<c->a<c:=zzI 0x15a81f68002a81f690021e907da00087 [a,b,c]
theorem A53:m<n->n<p->m<p:=zzM 0x15a81f68000a81f690001e907da00007 [m,n,p]
theorem A57:(2:Nat)<=m->m=n->(1:Nat)<=n:=zzM 0x96907d029a011e80bd007 [m,n]
theorem A59:m+(40*(n+1))<=8000->m+1<9900:=zzM 0x149d6cf41f41f68000007ea0f41f69001a3ea00007 [m,n]
theorem A60:m<=n->p+(10*n)<=700->p+(10*m)<=700:=zzM 0xaffd5f3da0afaa00057cf692bea80007a68007 [m,n,p]
theorem A61:m<=n->p+(40*n)<=8000->p+(40*m)<=8000:=zzM 0x2bfffffffffc7ea0f68068faa0001fa83da41a3ea80007a68007 [m,n,p]
theorem A62: ¬(m<=63)->(63:Int)<((m:Nat):Int):=zzM 0x5a28101f41ffd002a01ffda00107 [m]
theorem A63:m<n+1->n<=m->m=n:=zzM 0x5269a01a2900707da4007da00007 [m,n]
theorem A64:m<n-1->n-1<n:=zzM 0x908a2907d07da4100007da4107da00007 [m,n]
theorem A65:m<n->n-1<=m->m=n-1:=zzM 0x4145121414522107da41a01a01f690401e907da00007 [m,n]
theorem A66:m+(n+1)<=p->m<p:=zzM 0x16a07da0002a07da40a00007 [m,n,p]
theorem A67:m+(n+1)<=p->m-1<p:=zzM 0x129a81f41f6804002a07da40a00007 [m,n,p]
theorem A68:(1:Nat)<=m->m=m-1->fe:=zzM 0x492807da01a011e807d007 [m]
theorem A69:m<=m+(n+1):=zzM 0x107da40a00a00 [m,n]
theorem A70:(1:Nat)<=m+1:=zzM 0x41f68001f40 [m]
theorem A71:m+(n+1)<=p->m+1+n<=p:=zzM 0x16aa41f6800002a07da40a00007 [m,n,p]
theorem A72:(1:Nat)<=m->¬(m=m-1):=zzM 0x492807da01a0112807d007 [m]
theorem A73:m<=n+1+p->m<=n+(p+1):=zzM 0x141f6a02902802a07da40028007 [m,n,p]
theorem A74:m<n+(p+1)->m<n+1+p:=zzM 0x16a07da40001f6800007da80a4007da00007 [m,n,p]
theorem A75: ¬((0:Nat)<0):=zzM 0x1a00f41f40f40004 []
theorem A76:(1:Nat)<=m->m-1=m->fe:=zzM 0x8a28a01f680411e807d007 [m]
theorem A77:0+m-1-n=m-1-n:=zzM 0x4104142082150890410448214882082841044a11244291128410a41f68041a41f6803d001041 [m,n]
theorem A78:m<n->n<p->p-1-n<p-1-m:=zzM 0x8a2290a82a0502810888a2290a82a4290a8281a01f6a04107da41f6a041000a81f690001e907da00007 [m,n,p]
theorem A79:m<n->n-1-p<n:=zzM 0x228a48a41f6a07da4104002907da00007 [m,n,p]
theorem A80:(1:Nat)<=m->1+(m-1)<=m:=zzM 0x94a01f68041f4002807d007 [m]
theorem A81:m<n->n<1->fe:=zzM 0x5a01f41f690001e907da00007 [m,n]
theorem A82:(1:Nat)<=m->n<=1+(m-1)->n<=m:=zzM 0xa54a29001f68041f40a401e807d007 [m,n]
theorem A83:m<=1+(n-1)->(1:Nat)<m->(0:Nat)<n:=zzM 0xa46907d03d000a01f41f4000707da4107d028007 [m,n]
theorem A84:m<=1+(n-1)->(1:Nat)<m->m-1<n:=zzM 0xa0a428a907d07da01000a01f41f4000707da4107d028007 [m,n]
theorem A85:(1:Nat)<m->(0:Nat)=m-1->fe:=zzM 0x546807da0103d047a01f41f40007 [m]
theorem A86:(1:Nat)<m->(0:Nat)<m-1:=zzM 0xa907da0107d03d000a01f41f40007 [m]
theorem A87:(1:Nat)<m->m-1<m:=zzM 0x152807d07da01000a01f41f40007 [m]
theorem A88:m<=1+(n-1)->(1:Nat)<m->m<=n:=zzM 0xa4a9a00a01f41f4000707da4107d028007 [m,n]
theorem A89:(1:Nat)<=m->¬((1:Nat)<m)->m=1:=zzM 0x4a81f68068a01f41f400041e807d007 [m]
theorem A90:m<n->n<2->n=1:=zzM 0x4a81f69042f41f690001e907da00007 [m,n]
theorem A91:m<1->m=0:=zzM 0x2503da0107d07da00007 [m]
theorem A92:(1:Nat)<=m->¬((1:Nat)=m)->(1:Nat)<1+(m-1):=zzM 0xa485141f68041f4007d07d000a2807d0441e807d007 [m]
theorem A93:(1:Nat)<=2:=zzM 0x42f41f40 []
theorem A94:(1:Nat)<=m->¬((1:Nat)=m)->2+(m-(1+1))<=m:=zzM 0x1240a8a01f41f40a010bd000a2807d0441e807d007 [m]
theorem A95:m=0->¬((0:Nat)<m):=zzM 0x9a2807d03d000100f68047 [m]
theorem A96:(1:Nat)<=m->¬((1:Nat)=m)->n<=2+(m-(1+1))->n<=m:=zzM 0xa4a02a8a29001f41f40a010bd029007a2807d0441e807d007 [m,n]
theorem A97:(2:Nat)<=m->(1:Nat)<=m:=zzM 0x16807d0280bd007 [m]
theorem A98:m<=n->m+(n-m)<=n:=zzM 0x2529a29068000a68007 [m,n]
theorem A99:(2:Nat)<=m->m<=n->(1:Nat)<=n:=zzM 0x56907d029a001e80bd007 [m,n]
theorem A100:m<=n->p<=m+(n-m)->p<=n:=zzM 0x29529a80a2906802a007a68007 [m,n,p]
theorem A101:m<=n->n<=p->m<=p:=zzM 0x56aa00aa9007a68007 [m,n,p]
theorem A102:m-n<=0->n<=p->m<=p:=zzM 0x14aaaa802aa401c0f69a01007 [m,n,p]
theorem A103:m-n<=m:=zzM 0x4a8a68040 [m,n]
theorem A104:m<=n->n-(n-m)=m:=zzM 0x2942292884228a29069041a68007 [m,n]
theorem A105:m+0=n->m=n:=zzM 0x149a6806903da00047 [m,n]
theorem A106:m+(n+1)=p->m<p:=zzM 0x26a07da0002a07da40a00047 [m,n,p]
theorem A107:m-0<=m:=zzM 0x12a00f68040 [m]
theorem A108:m<n->¬(n<=m):=zzM 0x5a28a4012907da00007 [m,n]
theorem A109:m+(n+1)=p->m+1+n=p:=zzM 0x526aa41f6800006a07da40a00047 [m,n,p]
theorem A110:m<n->m=p->¬(n=p):=zzM 0x29a2aa4112aa011e907da00007 [m,n,p]
theorem A111:m<n->n<p+1->m=q->(q<n)/\(n<=p):=zzM 0x8946aa40a41f6b00016ba011c1f6a001f690001e907da00007 [m,n,p,q]
theorem A112:m<n->m=p->p<=n-1:=zzM 0x2a5241f6906a02aa011e907da00007 [m,n,p]
theorem A113:m<n->n<p+1->n-1<p:=zzM 0x952a81f41f69040001f6a001f690001e907da00007 [m,n,p]
theorem A114:m<n->((p<m)/\(m<=q))->¬(n=p):=zzM 0x968aa9044ae802807da800051e907da00007 [m,n,p,q]
theorem A115:m<n->n<p+1->((q<m)/\(m<=p))->(q<n)/\(n<=p):=zzM 0x2249aa902907dac0005aa802807dac00051c1f6a001f690001e907da00007 [m,n,p,q]
theorem A116:m<n->((p<m)/\(m<=q))->m-1<n-1:=zzM 0x1150aa14107da4107d07da01000ae802807da800051e907da00007 [m,n,p,q]
theorem A117:m<n+1->((p<q)/\(q<=n))->m-1<n:=zzM 0x2521a41f41f68040029ac0ac1f6a00014707da4007da00007 [m,n,p,q]
theorem A118:m<n->n=p->m<p:=zzM 0x96a07da0002aa411e907da00007 [m,n,p]
theorem A119:m<n->¬(m=p)->(¬((p<m)/\(m<=q)))->((p<n)/\(n<=q))->m<p:=zzM 0x24a11242aa07da0002ba40a41f6a000147a2ba00a01f6a0001441e8aa80441e907da00007 [m,n,p,q]
theorem A120:((m<n)/\(n<=p))->q<m->q<n-1:=zzM 0xa5241f69041f6b000a01f6b0001eaa40a41f68000147 [m,n,p,q]
theorem A121:((m<n)/\(n<=p))->n-1<p:=zzM 0x952a81f41f6904002aa40a41f68000147 [m,n,p]
theorem A122:m<=n->p<n+1->¬(p=m)->(¬((m<p)/\(p<=n)))->p<n:=zzM 0x12492452907da80028a6a02a07da00005107a28a8110707da4007da80007a68007 [m,n,p]
theorem A123:(1:Nat)<=m->max m 1=m:=zzM 0x52512807da0206807d007 [m]
theorem A124:m<n->m+(n-m)=n:=zzM 0xa544a68a41a0006907da00007 [m,n]
theorem A125:m<=n->¬(m<n)->m=n:=zzM 0x149a68068a41f68000107a68007 [m,n]
theorem A126:a<b->b<a->fe:=zzI 0x168a01f690021e907da00087 [a,b]
theorem A127: ¬(a<b)->¬(b=a)->b<a:=zzI 0x516807da400a8a290c41e8a41f68002107 [a,b]
theorem A128:a<=b+1->a<=b-0+1:=zzI 0x507d03da41028081f69028087 [a,b]
theorem A129:a-(b+1)=a-1-b:=zzI 0x16907da01041f69028043 [a,b]
theorem A130:a=b->c-1-b+1+a=c:=zzI 0x526aa01f6907da81040003a680c7 [a,b,c]
theorem A131:a-1-b+1+c=a->d-1-b+1+c=d:=zzI 0x526ba81f6907dac1040003a2a07da41f680410000c7 [a,b,c,d]
theorem A132:a<b+1->¬(a=b)->a<b:=zzI 0x145a41f68002a29a0310707da4007da00087 [a,b]
theorem A133:a<b->(0:Int)<=b-1-a:=zzI 0x5a01f6904103d0a907da00087 [a,b]
theorem A134:(0:Int)<=a->b-1-a<b:=zzI 0x5a41f6807da410400a803d087 [a,b]
theorem A135:a+b=c+1->a+(b-1-d)=c-d:=zzI 0x526ba81ac1f69041a000c1f6a029a000c7 [a,b,c,d]
theorem A136:a<b->c+(b-1-a)=d-a->e<=c->e<=d-a:=zzI 0x2968ac1b02aac087a2b06807da4106a0031e907da00087 [a,b,c,d,e]
theorem A137:a<=b->a+0<=b:=zzI 0x5a40f68002a68087 [a,b]
theorem A138:(0:Int)<a->(0:Int)<=a-1:=zzI 0x141f68040f42a01f40f40087 [a]
theorem A139:a-1<a:=zzI 0x6807d07da01002 [a]
theorem A140:((a+b<=c)\/((a+b=c+1)/\(d+b<=e)))->(¬((a+b<=c)\/((a+b=c+1)/\(d+b<=f))))->a+(b-1)=c:=zzI 0x484148284821145145145a81f69068003a2da6b00207da80a6800316aa680021841eca6b00207da80a6800316aa68002187 [a,b,c,d,e,f]
theorem A141:(¬((a+b<=c)\/((a+b=c+1)/\(d+b<=e))))->a+(b-1)=c->e<=d+(b-1):=zzI 0x8890a07da41ac0b02a81f690680031e8b29ac0081f6a029a000c5aa9a00086107 [a,b,c,d,e]
theorem A142:((a+b<=c)\/((a+b=c+1)/\(d+b<=e)))->a+(b-1)=c->d+(b-1)<e:=zzI 0x4426c07d07da41ac0002a81f690680031eca6b00207da80a6800316aa68002187 [a,b,c,d,e]
theorem A143:(0:Int)<a->b<=c->b<=c+(a-1):=zzI 0x1507da01a80a42aa9087a01f40f40087 [a,b,c]
theorem A144:a+b<=c->a+(b-1)<c:=zzI 0x16a07d07da41a00002aa9a00087 [a,b,c]
theorem A145:a<b->a-c+1+c<=b:=zzI 0x169a81f6aa010000a907da00087 [a,b,c]
theorem A146:(0:Int)<a->a=0->fe:=zzI 0x5a00f680c7a01f40f40087 [a]
theorem A147:a-b+1+b=a+1:=zzI 0x141f6802907da68040003 [a,b]
theorem A148:a-b+1+b<=a+1:=zzI 0x41f6802907da68040002 [a,b]
theorem A149:((a+b=c+1)/\(d+b=e+1))->b=f->c-f+1=a:=zzI 0x50522a01f6da81003b690c707db00a6b00307da80a68003147 [a,b,c,d,e,f]
theorem A150:((a+b=c+1)/\(d+b=e+1))->b=f->e-f+1<=d:=zzI 0x128ac1f6db01002b690c707db00a6b00307da80a68003147 [a,b,c,d,e,f]
theorem A151:((a+b=c+1)/\(d+b<=e))->d+b<=e+1:=zzI 0x501f6c029ac00aca6b00207da80a68003147 [a,b,c,d,e]
theorem A152:((a+b=c+1)/\(d+b=e+1))->b=f->g+f<=c->g<a:=zzI 0x522a01f6e002aadb80087b690c707db00a6b00307da80a68003147 [a,b,c,d,e,f,g]
theorem A153:((a+b=c+1)/\(d+b=e+1))->b=f->((g+f=c+1)/\(h+f<=e))->g=a:=zzI 0x4905122a2e0ecb6f00207da80b6e003147b690c707db00a6b00307da80a68003147 [a,b,c,d,e,f,g,h]
theorem A154:((a+b=c+1)/\(d+b=e+1))->b=f->((g+f=c+1)/\(h+f<=e))->h<=d:=zzI 0x1428aef0acb6f00207da80b6e003147b690c707db00a6b00307da80a68003147 [a,b,c,d,e,f,g,h]
theorem A155:a<=b->((c<=d)/\((d<a)/\((e<=f)/\(g=h))))->d<b:=zzI 0x426907dac00afb83b6c085a01f6b00216ba82147a68087 [a,b,c,d,e,f,g,h]
theorem A156:a<a+1:=zzI 0x41f68001f68002 [a]
theorem A157:((a<=b)/\((b<c)/\((d<=e)/\(f=g))))->b<c+1:=zzI 0x4207da8007da400aeb43b2b085a81f69002169a02147 [a,b,c,d,e,f,g]
theorem A158: ¬(a=b)->((c<=a)/\((a<b+1)/\((d<=e)/\(f=g))))->a<b:=zzI 0x10209a41f68002bad0ecac2141f69001f68002168a82147a29a03107 [a,b,c,d,e,f,g]
theorem A159:a<=b->a<=b-1+1:=zzI 0x141f41f69040a02a68087 [a,b]
theorem A160:a<b->a-1<b:=zzI 0x5a41f41f680400a907da00087 [a,b]
theorem A161:((a<b)\/(c<=d))->¬((d<=e)/\((e<c)/\((b<=a)/\(f=g)))):=zzI 0x54468bad0e8a4216a07db00085b2b08512ba82a41f68002187 [a,b,c,d,e,f,g]
theorem A162:a+((0:Nat):Int)=b->a=b:=zzI 0x149a680e9a00f44a000c7 [a,b]
theorem A163:a+((m+1:Nat):Int)=b->a<b:=Z.R 0x26907da000a9a01f68004a000c7 [a,b] [m]
theorem A164:a+((m+1:Nat):Int)=b->a+1+((m:Nat):Int)=b:=Z.R 0x5269a28101f680000e9a01f68004a000c7 [a,b] [m]
theorem A165:(0:Int)<=a->((-1000000):Int)<a:=zzI 0x16807da1ec3283d1400a803d087 [a]
theorem A166:a<((m:Nat):Int)->m<1000000->a<1000000:=Z.R 0x157b0ca0f41f680027b0ca0f41f680001e8a0407da00087 [a] [m]
theorem A167:a<=b->b+1+((m:Nat):Int)<=((n:Nat):Int)->a+((m+1:Nat):Int)<=((n:Nat):Int):=Z.R 0x568a44a01f68004a000a8a44a28101f69000087a68087 [a,b] [m,n]
theorem A168:a<=b->a+((Int.toNat (b-a):Nat):Int)=b:=zzI 0x525129a28a29044128003a68087 [a,b]
theorem A169:a<b->a<=b-1:=zzI 0x141f690680a907da00087 [a,b]
theorem A170:a+b<=c->a-1+(b+1)<=c:=zzI 0x16a07da4007da01002aa9a00087 [a,b,c]
theorem A171:(0:Int)<=a->(0:Int)<=a+1:=zzI 0x507da0003d0a803d087 [a]
theorem A172:(0:Int)<=a->(0:Int)<a+1:=zzI 0x141f68001f40f400a803d087 [a]
theorem A173:(0:Int)<=a->¬(a=0)->(0:Int)<=a-1:=zzI 0x2a81f68040f42a00f680c41e803d087 [a]
theorem A174:a<b+1->a-1<b:=zzI 0x16907d07da0100207da4007da00087 [a,b]
theorem A175:a-1+b=a+(b-1):=zzI 0x141f6906802907da01003 [a,b]
theorem A176:a<=b->a<=b:=zzI 0x169a02a68087 [a,b]
theorem A177:a+b<c->a+(b+1)<=c:=zzI 0x16a07da40a000aa07da68000087 [a,b,c]
theorem A178:(0:Int)<=a->a<b->(0:Int)<=b-1:=zzI 0x541f69040f42a41f680021e803d087 [a,b]
theorem A179:a+b<=c->(0:Int)<=b->c<=((m:Nat):Int)->a-1<((m:Nat):Int):=Z.R 0x55a28101f41f680400a8a04a821e903d087aa9a00087 [a,b,c] [m]
theorem A180:a<=b->(0:Int)<=c->(0:Int)<=a->(0:Int)<=b+c:=zzI 0x55aa9000f42a00f421ea03d087a68087 [a,b,c]
theorem A181:a<=((m:Nat):Int)->b+c<a->b+c<((m:Nat):Int):=Z.R 0x568a0407daa90000a807daa9000087a28128087 [a,b,c] [m]
theorem A182:m<200->¬((200:Int)<=((m:Nat):Int)):=zzM 0x5a28a041a8f42106a3d07da00007 [m]
theorem A183:(0:Int)<a->b<=c->c+a<=d->m<=2*(Int.toNat (c-b))+1+n->p<=2*(Int.toNat (d-(c+a)))+1+m->q=2*(Int.toNat (d-b))+1+n->p+1<=q:=Z.R 0x20aa8936c20aa891b0852a24cc214a890eb07da8002907da29ac1102f8002b047a01f68a2a02b0440be000a801e907da29a81102f80028007ae8a80087aa9087a01f40f40087 [a,b,c,d] [m,n,p,q]
theorem A184:m+n<=1000->p<=n->p<1000000:=zzM 0x157b0ca0f41f6a000a6a0077e8f69a00007 [m,n,p]
theorem A185:m<=n->(1:Nat)<=p->m=p+q->q<n:=zzM 0x296907dac002ba80a011ea07d007a68007 [m,n,p,q]
theorem A186:m+n<=1000->n=p+q->m+q<=1000:=zzM 0xa5fa3dae8000aea0290477e8f69a00007 [m,n,p,q]
theorem A187: ¬(a=0)->(0:Int)<=a->(0:Int)<a:=zzI 0x2a6807d03d002a00f421e803da03107 [a]
theorem A188:m+n<=1000->m<1000000:=zzM 0x57b0ca0f41f680007e8f69a00007 [m,n]
theorem A189:m+n<=1000->p+1<=n->m+1+p<=1000:=zzM 0x55fa3da81f6800002907da800077e8f69a00007 [m,n,p]
theorem A190:m+(n+1)<=1000->m+n<=1000:=zzM 0x57e8f69a0001fa3d07da40a00007 [m,n]
theorem A191:m+(n+1)<=1000->m<1000000:=zzM 0x15ec3283d07da0001fa3d07da40a00007 [m,n]
theorem A192:m+(n+1)<=1000->m+1+n<=1000:=zzM 0x15fa3da41f6800001fa3d07da40a00007 [m,n]
theorem A193:m+0<=1000->m<999999:=zzM 0x15ec31ffd07da0001fa3d03da00007 [m]
theorem A194:m+n<=1000->p<=1->q=m+p->q+1<1000000:=zzM 0x957b0ca0f41f41f6b00002aa00ac11c1f6a0077e8f69a00007 [m,n,p,q]
theorem A197:m+(2*(n+1))<=100000->m<999999:=zzM 0x15ec31ffd07da0000387583d07da400bea00007 [m,n]
theorem A198:m+(2*(n+1))<=100000->p<=1->q<=1->m+(p+q)+(2*n)<=100000:=zzM 0x550e1d60f690beaea028000001f6b00707da801c387583d07da400bea00007 [m,n,p,q]
theorem A200:m<=1000->0+(2*m)<=100000:=zzM 0xb0e1d60f680be03d0007e8f68007 [m]
theorem A201:a<=b->b+c+((m:Nat):Int)<=((n:Nat):Int)->(0:Int)<c->a+((m+1:Nat):Int)<=((n:Nat):Int):=Z.R 0x55a2912807da00128002a81f40f40087a29128a04aa9000087a68087 [a,b,c] [m,n]
theorem A202:0+((m:Nat):Int)<=((n:Nat):Int)->m<=n:=zzM 0x5a68028a44a28100f40087 [m,n]
theorem A203:a+(b-a)=b:=zzI 0x169a29068003 [a,b]
theorem A204: ¬(((m+1+1:Nat):Int)=1):=zzM 0x1a01f6807d07da000040c4 [m]
theorem A205:m+0<=1000->m<1000000:=zzM 0x15ec3283d07da0001fa3d03da00007 [m]
theorem A206:m<=900->1+(m-n)<=1000:=zzM 0x897e8f69a0107d000724f68007 [m,n]
theorem A211:(-1)+((m+1:Nat):Int)=((m:Nat):Int):=zzM 0x168a04a01f68004a01f45003 [m]
theorem A212:((m:Nat):Int)<((m+1:Nat):Int):=zzM 0x6807da00101f68a04002 [m]
theorem A213:(0:Int)<((m+1:Nat):Int):=zzM 0x1a01f6800407d03d002 [m]
theorem A248:m+(n+p)<1000000->m+n<1000000:=zzM 0x15ec3283d07da6800001ec3283d07daa9028000007 [m,n,p]
theorem A249:m+(n+p)<1000000->m+n+p<1000000:=zzM 0x15ec3283d07daa9a0000001ec3283d07daa9028000007 [m,n,p]
theorem A310:m<=200->m<1000000:=zzM 0x57b0ca0f41f680001a8f68007 [m]
theorem A311:m<=201->0+m<=1000:=zzM 0x57e8f6803d0001a9f68007 [m]
theorem AF0:(-(1000000:Int))<a->b<(1000000:Int)->(Int.toNat (a-b))<(2000000:Nat)->(((((-(9223372036854775808:Int))<=a)/\(a<(9223372036854775808:Int)))/\(((-(9223372036854775808:Int))<=b)/\(b<(9223372036854775808:Int))))/\(((-(9223372036854775808:Int))<=(max (a-b) (0:Int)))/\((max (a-b) (0:Int))<(9223372036854775808:Int))))/\(((max (a-b) (0:Int))=(0:Int))\/(((-(9223372036854775808:Int))<=b)/\(b<(9223372036854775808:Int)))):=zzI 0x4040404050281108881110215124a52120202020221110488a048408544a2a4848820820820820820820f41f69002a6822082082082082082083d142140f40f69a01083188820820820820820820f41f40f69a01080080f69a010a822082082082082082083d142148820820820820820820f41f69002a6822082082082082082083d142148820820820820820820f41f68002a2822082082082082082083d14214514507d86483d07da29a011000077b0ca0f41f690021e807da1ec3283d140087 [a,b]
theorem AF1:a<(1000000:Int)->(-(1000000:Int))<b->(Int.toNat (a-b))<(2000000:Nat):=zzI 0x10941f61920f41f68a68044000a41f687b0ca0f450021dec3283d07da00087 [a,b]
theorem Y0:(m+(2:Nat))<=n->(p+((40:Nat)*(n+(1:Nat))))<=(8000:Nat)->((p+(1:Nat))+((40:Nat)*(m+(2:Nat))))<=(8000:Nat):=zzM 0x2bfffffffffc7ea0f42f68001a3e07da800001fa83d07da40068faa0001e90bda00007 [m,n,p]
theorem Y1:(m+(2:Nat))<=n->(p+((10:Nat)*(n+(1:Nat))))<=(700:Nat)->(p+((10:Nat)*(m+(2:Nat))))<=(700:Nat):=zzM 0x2bff57cf42f6800afaa00057cf41f6900afaa0001e90bda00007 [m,n,p]
theorem Y2:(m+(n+(1:Nat)))=((m+(1:Nat))+n):=zzM 0x16907da00001f69028001 [m,n]
theorem Y3:(((m+(1:Nat))<=n)/\((n+(1:Nat))<((m+(1:Nat))+(p+(1:Nat)))))->(m<=n)/\((n+(1:Nat))<(m+((p+(1:Nat))+(1:Nat)))):=zzM 0x14907d07da80028001f41f69000029a00141f6a001f6800007d07da40000a41f68000147 [m,n,p]
theorem Y4:(m<=m)/\((m+(1:Nat))<(m+((n+(1:Nat))+(1:Nat)))):=zzM 0x141f41f69000a0007d07da00000a28005 [m,n]
theorem Y5:((m+(1:Nat))-m)=(1:Nat):=zzM 0x9481f6807da00041 [m]
theorem Y6:m<n->(m+(n-m))=n:=zzM 0xa544a68a41a0006907da00007 [m,n]
theorem Y7:m<n->((n+(1:Nat))-m)=((n-m)+(1:Nat)):=zzM 0x5145149250807da29040a01f6900106907da00007 [m,n]
theorem Y8:m<n->((((n+(1:Nat))-(1:Nat))+(1:Nat))-m)=((n-m)+(1:Nat)):=zzM 0x545454548914484489122489141007da29040a01f41f41f6900100106907da00007 [m,n]
theorem Y9:(m-n)=(1:Nat)->m=(n+(1:Nat)):=zzM 0x2114481f69028041f69a01047 [m,n]
theorem Y10:(0:Int)<=a->b<=a->¬((a+a)<((min c (d+b))-d)):=zzI 0xaa968ae9ac0a83041f68a00002128a421e803d087 [a,b,c,d]
theorem Y11:(0:Int)<=a->b<=a->¬((a+a)<(c-(max d (c-b)))):=zzI 0x95568a6a06b0aa041f68a00002128a421e803d087 [a,b,c,d]
theorem Y12:a<=b->c<=d->((a<b)\/(c<d))->((m:Nat):Int)<=((((n:Nat):Int)-b)+(((p:Nat):Int)-d))->(((m+(1:Nat)):Nat):Int)<=((((n:Nat):Int)-a)+(((p:Nat):Int)-c)):=Z.R 0x152aaaa8a84068a2910102807da00102ae8a84069a29101028a04087ac1f6a002a41f68002187aea087a68087 [a,b,c,d] [m,n,p]
theorem Y13:(0:Int)<a->((m:Nat):Int)<=((((n:Nat):Int)-(b+a))+(((p:Nat):Int)-(c+a)))->(((m+(1:Nat)):Nat):Int)<=((((n:Nat):Int)-b)+(((p:Nat):Int)-c)):=Z.R 0x2baa8a84069a2910102807da00102a2a028a84068a40a29101028a04087a01f40f40087 [a,b,c] [m,n,p]
theorem Y14:(0:Int)<=((((m:Nat):Int)-((m:Nat):Int))+(((n:Nat):Int)-((n:Nat):Int))):=zzM 0x1a29128a44068a04a28101000f42 [m,n]
theorem Y15:(0:Int)<a->(b<=(b+a))/\(c<=(c+a)):=zzI 0x1568a80a82a29029085a01f40f40087 [a,b,c]
theorem Y16:((a+b)-a)=((c+b)-c):=zzI 0x16aa6a001a29a00043 [a,b,c]
theorem Y17:(a-b)=(c-d)->((min a (b+e))-b)=((min c (d+e))-d):=zzI 0x11215248a125042bb2b02a0c1a6ca40a03043aea069a010c7 [a,b,c,d,e]
theorem Y18:(a-b)=(c-d)->(a-(max b (a-e)))=(c-(max d (c-e))):=zzI 0x1041424a9244486ca81ac2a81b280690a8043aea069a010c7 [a,b,c,d,e]
theorem Y19:(a-b)=(c-d)->(d+(min e (a-b)))=(min c (d+e)):=zzI 0x1424a082242a492cac0a83a6806c0eb003aea069a010c7 [a,b,c,d,e]
theorem Y20:(a+(min b (c-a)))=(min c (a+b)):=zzI 0x14944445269a00a83a2a0690e8003 [a,b,c]
theorem Y21:(a-b)=(c-d)->(c-(min e (a-b)))=(max d (c-e)):=zzI 0x10412542452428aca81ac2a6806c0ea043aea069a010c7 [a,b,c,d,e]
theorem Y22:(a-(min b (a-c)))=(max c (a-b)):=zzI 0x1112a4a9129a01a82aa80690e8043 [a,b,c]
theorem Y23:a<=b->(min b a)=a:=zzI 0x4a9128a290c3a68087 [a,b]
theorem Y24:a<=b->(min a b)=a:=zzI 0x444aa8a680c3a68087 [a,b]
theorem Y25:(min a b)=(min b a):=zzI 0x14944445268a43a680c3 [a,b]
theorem Y26:(min a b)<=b:=zzI 0xaa9a680c2 [a,b]
theorem Y27:(0:Int)<=a->(0:Int)<=b->(0:Int)<=(min b a):=zzI 0x491a290c0f42a40f421e803d087 [a,b]
theorem Y28:m=(n+p)->n<=m:=zzM 0x2a8a40aa9028047 [m,n,p]
theorem Y29:m<=n->((1:Nat)+m)<=(n+(1:Nat)):=zzM 0x141f6902807d000a68007 [m,n]
theorem Y30:(1:Nat)<=m->m=((m-(1:Nat))+(1:Nat)):=zzM 0x12a4407d07da0102806807d007 [m]
theorem Y31:(((1:Nat)+m)+(1:Nat))=((m+(1:Nat))+(1:Nat)):=zzM 0x141f41f6800007da01f40001 [m]
theorem Y32:(m+n)<=(188:Nat)->((((3:Int)*((p:Nat):Int))+a)+b)<=(((((m:Nat):Int)-(0:Int))+(((n:Nat):Int)-(0:Int)))+(1:Int))->(0:Int)<=a->(0:Int)<=b->p<(64:Nat):=Z.R 0x1d54283d07da8002903d087a00f421c1f40f68a44040f68a04040029a28a840fe00008717cf69a00007 [a,b] [m,n,p]
theorem Y33:(0:Int)<a->(((3:Int)*((m:Nat):Int))+b)<=((c-d)+(e-f))->(((3:Int)*((n:Nat):Int))+g)<=((h-(c+a))+(i-(e+a)))->((((3:Int)*(((m+(n+(1:Nat))):Nat):Int))+b)+g)<=(((h-d)+(i-f))+(1:Int)):=Z.R 0x2ac1f6dc01aef04002ea6807da40a00103f80002a2c030068a80bc102ea29103f80087b6c06ba81029a28103f80087a01f40f40087 [a,b,c,d,e,f,g,h,i] [m,n]
theorem Y34:(0:Int)<a->(((b+a)=b)/\((c<c)\/((c=c)/\(d<=d))))->(((3:Int)*((m:Nat):Int))+e)<=((f-(c+b))+(g-(d+b))):=Z.R 0x285a6b02e069a80b4102ca28103f800abac2aaa0c5a81f6a0021a9a29003147a01f40f40087 [a,b,c,d,e,f,g] [m]
theorem Y35:(0:Int)<a->(b+a)<b->(((3:Int)*((m:Nat):Int))+c)<=((d-(e+b))+(f-(g+b))):=Z.R 0x5a6e02d069b00ac102aa28103f800a907da29000087a01f40f40087 [a,b,c,d,e,f,g] [m]
theorem Y36:(0:Int)<a->(0:Int)<=b->(0:Int)<(b+a):=zzI 0x15a29001f40f400a903d087a01f40f40087 [a,b]
theorem Y37:(0:Int)<a->(0:Int)<=b->(0:Int)<=(b+a):=zzI 0x568a4003d0a903d087a01f40f40087 [a,b]
theorem Y38:a=(b+c)->(a+d)<=e->(b+(c+d))<=e:=zzI 0xaacaea029002b2ba00087aa90280c7 [a,b,c,d,e]
theorem Y39:((((3:Int)*((m:Nat):Int))+(1:Int))+a)<=(((b-(c+d))+(e-(f+d)))+(1:Int))->(((3:Int)*((m:Nat):Int))+a)<=((b-(c+d))+(e-(f+d))):=Z.R 0x16bb40b01aea029040a28a040fe00207daed02c06ba80a41000a01f68a040fe000087 [a,b,c,d,e,f] [m]
theorem Y40:(a+b)<=c->(d+b)<=e->¬(((a+b)=c)/\((d+b)=e))->(((3:Int)*(((0:Nat):Nat):Int))+(1:Int))<=((c-(a+b))+(e-(d+b))):=zzI 0x5252a269ac0b01a6802a04007da00f440fe002a2ca6b003aa9a000c5107b29ac0087aa9a00087 [a,b,c,d,e]
theorem Y41:(((a+b)=c)/\((d+b)=e))->(((3:Int)*(((0:Nat):Nat):Int))+(0:Int))<=((c-(a+b))+(e-(d+b))):=zzI 0x1269ac0b01a6802a04003da00f440fe002b29ac00eaa68003147 [a,b,c,d,e]
theorem Y42:(0:Int)<a->(((a+b)=b)/\((c<d)\/((c=d)/\(e<=f))))->(((3:Int)*((m:Nat):Int))+g)<=((c-h)+(e-i)):=Z.R 0x285c2c06fa8102ea28103f800adb02aea0c5ac1f6a0021a9a68003147a01f40f40087 [a,b,c,d,e,f,g,h,i] [m]
theorem Y43:(0:Int)<a->(a+b)<b->(((3:Int)*((m:Nat):Int))+c)<=((d-e)+(f-g)):=Z.R 0x5bad06cac102aa28103f800a907da68000087a01f40f40087 [a,b,c,d,e,f,g] [m]
theorem Y44:(0:Int)<a->(0:Int)<b->(0:Int)<(b+a):=zzI 0x568a4007d03d002a41f40f40087a01f40f40087 [a,b]
theorem Y45:((((3:Int)*((m:Nat):Int))+a)+(1:Int))<=(((b-c)+(d-e))+(1:Int))->(((3:Int)*((m:Nat):Int))+a)<=((b-c)+(d-e)):=Z.R 0x16cac1aa9040a28a040fe00207db2b06aa4100007da28a040fe000087 [a,b,c,d,e] [m]
theorem Y46:a<=b->c<=d->¬((b=a)/\(d=c))->(((3:Int)*(((0:Nat):Nat):Int))+(1:Int))<=((b-a)+(d-c)):=zzI 0x29492aaaac1a2904007da00f440fe002a2aac3a290c5107aea087a68087 [a,b,c,d]
theorem Y47:((a=b)/\(c=d))->(((3:Int)*(((0:Nat):Nat):Int))+(0:Int))<=((a-b)+(c-d)):=zzI 0x14aba81a6804003da00f440fe002aea0e9a03147 [a,b,c,d]
theorem Y48:((a+b)+(c-b))=(a+c):=zzI 0x16aa00a6a069a00003 [a,b,c]
theorem Y49:a<(b+c)->(a-b)<c:=zzI 0x16a07da680400aaa4007da00087 [a,b,c]
theorem Y50: ¬(a<b)->(0:Int)<=(a-b):=zzI 0x169a0103d0a8a41f68002107 [a,b]
theorem Y53:(-(1000000:Int))<((m:Nat):Int):=zzM 0x1a28101f687b0ca0f45002 [m]
theorem Y55:m<(100000:Nat)->(n+p)=m->n<(1000000:Nat):=zzM 0x95ec3283d07da40028aa90011c387583d07da00007 [m,n,p]
theorem Y56:m<=n->p<=(1:Nat)->(p+m)<=(n+(1:Nat)):=zzM 0x541f69028a80001f6a007a68007 [m,n,p]
theorem Y57:m<(n-(1:Nat))->(m+(1:Nat))<n:=zzM 0x12a907d07da0000007da4107da00007 [m,n]
theorem Y58:(Int.toNat (((m:Nat):Int)-(1:Int)))=(m-(1:Nat)):=zzM 0x1112a4a9101f6806807da28101101 [m]
theorem Y59:m<=(1002:Nat)->m<(100000:Nat):=zzM 0x50e1d60f41f680007eaf68007 [m]
theorem Y60:m<=(1002:Nat)->(((m:Nat):Int)-(1:Int))<(1000000:Int):=zzM 0x15ec3283d07d07da281010027eaf68007 [m]
theorem Y61:(-(1000000:Int))<(((m:Nat):Int)-(1:Int)):=zzM 0x41f68a04041f687b0ca0f45002 [m]
theorem Y62:m<=(1002:Nat)->(m-(1:Nat))<(100000:Nat):=zzM 0x224387583d07d07da010007eaf68007 [m]
theorem Y63:m<(1000:Nat)->n<=(m-(1:Nat))->((n+(1:Nat))+(1:Nat))<=(1002:Nat):=zzM 0x28a5fabd07d07da4000007da01a401dfa3d07da00007 [m,n]
theorem Y64:(m+(1:Nat))<(2:Nat)->m=(0:Nat):=zzM 0x940f68042f41f41f68000007 [m]
theorem Y65:(m+(1:Nat))<n->m<n:=zzM 0x5a41f68000a41f41f68000007 [m,n]
theorem Y66:m<n->((m:Nat):Int)<((n:Nat):Int):=zzM 0x168a4407da281000a907da00007 [m,n]
theorem Y67:m<=(1002:Nat)->n<m->((n:Nat):Int)<(1000000:Int):=zzM 0x55ec3283d07da291000a807da400077eaf68007 [m,n]
theorem Y68:(1:Nat)<=m->(((m-(1:Nat)):Nat):Int)=(((m:Nat):Int)-(1:Int)):=zzM 0x1494407da28101a01f680440e807d007 [m]
theorem Y69:m<=n->m<=(n+(1:Nat)):=zzM 0x507da40a00a68007 [m,n]
theorem Y70:(((1:Nat)<=m)/\((m+(1:Nat))<((1:Nat)+(n-(1:Nat)))))->m<=(n-(1:Nat)):=zzM 0x91252901f69068001f69041f4007d07da00000a01f40147 [m,n]
theorem Y71:(m+(1:Nat))<=n->m<=n:=zzM 0x5a6802907da00007 [m,n]
theorem Y72:(1:Nat)<=m->((m-(1:Nat))+(1:Nat))<=m:=zzM 0x94a01f41f6804002807d007 [m]
theorem Y73:(((1:Nat)<=m)/\((m+(1:Nat))<((1:Nat)+(n-(1:Nat)))))->(m+(1:Nat))<=n:=zzM 0x952907da00001f69041f4007d07da00000a01f40147 [m,n]
theorem Y74:(m+(1:Nat))<=n->(((m:Nat):Int)+(1:Int))<=((n:Nat):Int):=zzM 0x168a4407da281000a907da00007 [m,n]
theorem Y75:(0:Int)<=(((m:Nat):Int)+(1:Int)):=zzM 0x41f68a04000f42 [m]
theorem Y76:m<=(n+(1:Nat))->(n+(1:Nat))<=p->((m:Nat):Int)<=((p:Nat):Int):=zzM 0x568a84a28102a81f690001c1f69028007 [m,n,p]
theorem Y77:m<((n-(1:Nat))-(1:Nat))->((1:Nat)+m)<n:=zzM 0x104a54a41f6807d000001f41f6904107da00007 [m,n]
theorem Y78:m<(1000:Nat)->n<=(m-(1:Nat))->n<(1000000:Nat):=zzM 0xa297b0ca0f41f6900007da01a401dfa3d07da00007 [m,n]
theorem Y79:(Int.toNat ((((m:Nat):Int)-(1:Int))-(1:Int)))=((m-(1:Nat))-(1:Nat)):=zzM 0x108211084541451454544201f41f68041a01f41f68a04041101 [m]
theorem Y80:m<(1000:Nat)->(((m:Nat):Int)-(1:Int))<(1000000:Int):=zzM 0x57b0ca0f41f41f68a0404009fa3d07da00007 [m]
theorem Y81:((2:Int)*a)=(a+a):=zzI 0x168a00a02f83 [a]
theorem Y82:m<(100000:Nat)->n<m->((n:Nat):Int)<(1000000:Int):=zzM 0x157b0ca0f41f68a44002a01f690001c387583d07da00007 [m,n]
theorem Y83:m<(1000:Nat)->n<=(m-(1:Nat))->p=(((n+(1:Nat))+(1:Nat))-(1:Nat))->p<=(1001:Nat):=zzM 0x24124482497e9f6a001f41f41f6900006a04707da01a401dfa3d07da00007 [m,n,p]
theorem Y84:m<(1000:Nat)->n<=(m-(1:Nat))->(((1:Nat)+n)+(1:Nat))<(1000000:Nat):=zzM 0xa297b0ca0f41f41f6907d00000007da01a401dfa3d07da00007 [m,n]
theorem Y85:m<(1000:Nat)->m<(100000:Nat):=zzM 0x14387583d07da0001fa3d07da00007 [m]
theorem Y86:m<(1000:Nat)->n<=(m-(1:Nat))->((1:Nat)+n)<(1000000:Nat):=zzM 0x28a5ec3283d07da41f4000007da01a401dfa3d07da00007 [m,n]
theorem Y87:m<(10000:Nat)->n<=m->n<(1000000:Nat):=zzM 0x157b0ca0f41f69000a29007278c3d07da00007 [m,n]
theorem Y88:m<(100000:Nat)->n<=m->n<(1000000:Nat):=zzM 0x55ec3283d07da40028a401c387583d07da00007 [m,n]
theorem Y89:m=(5:Nat)->n<=(83:Nat)->(n+m)<=(88:Nat):=zzM 0x290b8f68a40002cfda401c5f68047 [m,n]
theorem Y90:m=(5:Nat)->n<=(83:Nat)->(n+m)<(1000:Nat):=zzM 0xa5fa3d07da29000002cfda401c5f68047 [m,n]
theorem Y91:m<=(83:Nat)->m<=(88:Nat):=zzM 0x142e3da000b3f68007 [m]
theorem Y92:m=(5:Nat)->n<=(78:Nat)->(m+n)<=(83:Nat):=zzM 0x290b3f69a00002bbda401c5f68047 [m,n]
theorem Y93:m=(5:Nat)->n<=(78:Nat)->(m+n)<(1000:Nat):=zzM 0xa5fa3d07da68000002bbda401c5f68047 [m,n]
theorem Y94:m<=(78:Nat)->m<=(83:Nat):=zzM 0x142cfda000aef68007 [m]
theorem Y95:m<=(70:Nat)->n=(7:Nat)->((m+n)+(1:Nat))<=(78:Nat):=zzM 0x942bbd07da68000007f690470a6f68007 [m,n]
theorem Y96:m<=(71:Nat)->n=(7:Nat)->(m+n)<=(78:Nat):=zzM 0x250aef69a00007f690470a7f68007 [m,n]
theorem Y97:m<=(70:Nat)->n=(7:Nat)->((m+n)+(1:Nat))<(1000:Nat):=zzM 0x257e8f41f41f69a00000007f690470a6f68007 [m,n]
theorem Y98:m<=(70:Nat)->n=(7:Nat)->(m+n)<(1000:Nat):=zzM 0x95fa3d07da68000007f690470a6f68007 [m,n]
theorem Y99:m<=(71:Nat)->n=(7:Nat)->(m+n)<(1000:Nat):=zzM 0x95fa3d07da68000007f690470a7f68007 [m,n]
theorem Y100:(m+(n+(1:Nat)))<=(71:Nat)->((m+(1:Nat))+n)<=(71:Nat):=zzM 0x1429fda41f680000029fd07da40a00007 [m,n]
theorem Y101:(m+(n+(1:Nat)))<=(71:Nat)->(m+n)<=(71:Nat):=zzM 0x50a7f69a000029fd07da40a00007 [m,n]
theorem Y102:(m+(n+(1:Nat)))<=(71:Nat)->m<(1000:Nat):=zzM 0x15fa3d07da000029fd07da40a00007 [m,n]
theorem Y103:(m+(n+(1:Nat)))<=(70:Nat)->((m+(1:Nat))+n)<=(70:Nat):=zzM 0x1429bda41f680000029bd07da40a00007 [m,n]
theorem Y104:(m+(n+(1:Nat)))<=(70:Nat)->(m+n)<=(70:Nat):=zzM 0x50a6f69a000029bd07da40a00007 [m,n]
theorem Y105:(m+(n+(1:Nat)))<=(70:Nat)->m<(1000:Nat):=zzM 0x15fa3d07da000029bd07da40a00007 [m,n]
theorem Y106:m<=(63:Nat)->((7:Nat)+m)<=(70:Nat):=zzM 0x50a6f681fd00007ff68007 [m]
theorem Y107:m<=(63:Nat)->(((1:Nat)+(7:Nat))+m)<=(71:Nat):=zzM 0x1429fda07f41f4000007ff68007 [m]
theorem Y108:m<(1000:Nat)->m<(1000000:Nat):=zzM 0x15ec3283d07da0001fa3d07da00007 [m]
theorem Y109:(m+n)<(1000:Nat)->(m+n)<(1000000:Nat):=zzM 0x15ec3283d07da6800001fa3d07da68000007 [m,n]
theorem Y110:((m=(6:Nat))\/((m=(7:Nat))\/(m=(8:Nat))))->¬((3:Nat)=m):=zzM 0x4924a8a03f41108f68047f680461bda01187 [m]
theorem Y111:((m=(6:Nat))\/((m=(7:Nat))\/(m=(8:Nat))))->¬((9:Nat)=m):=zzM 0x249268a09f41108f68047f680461bda01187 [m]
theorem Y112:((m=(6:Nat))\/((m=(7:Nat))\/(m=(8:Nat))))->¬((10:Nat)=m):=zzM 0x249268a0af41108f68047f680461bda01187 [m]
theorem Y113:((m=(6:Nat))\/((m=(7:Nat))\/(m=(8:Nat))))->¬((5:Nat)=m):=zzM 0x4924a8a05f41108f68047f680461bda01187 [m]
theorem Y114:m=(n+(1:Nat))->n<m:=zzM 0x2a807da40001f69028047 [m,n]
theorem Y115:m<=(88:Nat)->n<=(88:Nat)->((p:Nat):Int)<=((((m:Nat):Int)-(0:Int))+(((n:Nat):Int)-(0:Int)))->p<=(200:Nat):=zzM 0x1546a3da8003da2910103da28101028a840870b8f690070b8f68007 [m,n,p]
theorem Y116:m<=n->¬(((n:Nat):Int)<((m:Nat):Int)):=zzM 0x5a28a0407da29100084a68007 [m,n]
theorem Y117:m<=(200:Nat)->n=p->p<=(m+(1:Nat))->n<(1000:Nat):=zzM 0x295fa3d07da40001f6802a007aa90471a8f68007 [m,n,p]
theorem Y118:m<n->n<(100000:Nat)->((m:Nat):Int)<(1000000:Int):=zzM 0x157b0ca0f41f68a040020e1d60f41f690001e907da00007 [m,n]
theorem Y119:m<n->(n-p)=(n-(m+(1:Nat)))->p<=q->q<=n->(m+(1:Nat))=p:=zzM 0x54440aaa08150521144108a81f68001a6b007aea00707da00a41aa90411e907da00007 [m,n,p,q]
theorem Y120:m<=(200:Nat)->m<=(900:Nat):=zzM 0x15c93da001a8f68007 [m]
theorem Y121:(1:Nat)<=m->m<=(0:Nat)->fe:=zzM 0x16803da001e807d007 [m]
theorem Y122:(min a b)<=a:=zzI 0x968a680c2 [a,b]
theorem Y123:(10:Nat)<(2:Nat)->(m=n)/\((0:Nat)=p):=zzM 0x926a03d069a01142f41f4af40007 [m,n,p]
theorem Y124:m<=(n+(1:Nat))->((n+(1:Nat))-p)=n->p<=m->(1:Nat)=p:=zzM 0x2a28a4844a81f41a2a007a6a07da400411c1f69028007 [m,n,p]
theorem Y125:m=(n+(1:Nat))->m=(p+(1:Nat))->n=p:=zzM 0x1452aaa4107da80a011c1f69028047 [m,n,p]
theorem Y126:m=(Int.toNat a)->¬(a=(0:Int))->(0:Int)<=a->a<(2:Int)->m=(1:Nat):=Z.R 0x50280884422114514207da010bd07da00087a00f421e803da03107a28128047 [a] [m]
theorem Y127:m<(900000:Nat)->n=m->n<(1000000:Nat):=zzM 0x95ec3283d07da40028a411dbbbd83d07da00007 [m,n]
theorem Y128:m<=((0:Nat)+n)->m<=n:=zzM 0x5a6802903d028007 [m,n]
theorem Y129:m<=((n+(1:Nat))+p)->m<=(n+(p+(1:Nat))):=zzM 0x141f6a02902802a07da40028007 [m,n,p]
theorem Y130:m<=((1:Nat)+n)->m<=(p+(n+(1:Nat))):=zzM 0x141f6902a02802907d028007 [m,n,p]
theorem Y131:(m+(1:Nat))<=(m+(n+(1:Nat))):=zzM 0x41f69028001f68000 [m,n]
theorem Y132:m<(2:Nat)->(7:Nat)<=n->m=n->fe:=zzM 0x25a29a011e91fd0070bd07da00007 [m,n]
theorem Y133:m<(2:Nat)->m=(10:Nat)->fe:=zzM 0x9a0af680470bd07da00007 [m]
theorem Y134:m<=(200:Nat)->n<=m->n<(1000000:Nat):=zzM 0x157b0ca0f41f69000a290071a8f68007 [m,n]
theorem Y135:(0:Int)<=a->a<(2:Int)->(Int.toNat a)<(2:Nat):=zzI 0x2120bd07da28100002f41f680021e803d087 [a]
theorem Y136:m=(n+(1:Nat))->n=p->q=p->q<m:=zzM 0x94a807dac002aac11eaa411c1f69028047 [m,n,p,q]
theorem Y137:m=(n+(1:Nat))->m=(p+(1:Nat))->p=n:=zzM 0x129469a8107da80a011c1f69028047 [m,n,p]
theorem Y138:m<=(88:Nat)->n<=(88:Nat)->(m+n)<=(188:Nat):=zzM 0x545f3da680000b8f690070b8f68007 [m,n]
theorem Y139:m<=(88:Nat)->m<(200:Nat):=zzM 0x51a8f41f680000b8f68007 [m]
theorem Y140:m<=(88:Nat)->m<(1000000:Nat):=zzM 0x57b0ca0f41f680000b8f68007 [m]
theorem Y141:m<(1000:Nat)->n<=m->n<(1000000:Nat):=zzM 0x55ec3283d07da40028a401dfa3d07da00007 [m,n]
theorem Y142: ¬(a<(0:Int))->(0:Int)<=a:=zzI 0x5a00f42a00f41f68002107 [a]
theorem Y143:a<(0:Int)->(0:Int)<=(-a):=zzI 0x5a28140f4203d07da00087 [a]
theorem Y144:m<=n->p<=(m+(1:Nat))->p<=(n+(1:Nat)):=zzM 0x541f6902a001f6802a007a68007 [m,n,p]
theorem Y145:m<(1000:Nat)->n<=m->p=n->q<p->((-(1000000:Int))<((q:Nat):Int))/\(((q:Nat):Int)<(1000000:Int)):=zzM 0x52a81ec3283d07da2b1000a8ac407da1ec3283d140085a81f6b0001e9a811e8a401dfa3d07da00007 [m,n,p,q]
theorem Y146:m<(900000:Nat)->n<=m->n<(900000:Nat):=zzM 0x55bbbd83d07da40028a401dbbbd83d07da00007 [m,n]
theorem Y147:m<(1000:Nat)->n<=m->p=n->p<(100000:Nat):=zzM 0x254387583d07da80029a811e8a401dfa3d07da00007 [m,n,p]
theorem Y148:m=n->p<m->p<n:=zzM 0xa6907da8002807da80007a68047 [m,n,p]
theorem Y149:((m:Nat):Int)<((n:Nat):Int)->m<n:=zzM 0x16907da00028a4407da28100087 [m,n]
theorem Y150:(1:Nat)<=m->m<=n->p=n->(0:Int)<((p:Nat):Int):=zzM 0xa5a2a101f40f400a9a811e9a001e807d007 [m,n,p]
theorem Y151:(m+n)<=(67:Nat)->p<=m->p<=(67:Nat):=zzM 0x5428fda80a2a0070a3f69a00007 [m,n,p]
theorem Y152:m<=(67:Nat)->((0:Nat)+m)<=(67:Nat):=zzM 0x50a3f6803d0000a3f68007 [m]
theorem Y153:m<=(63:Nat)->((4:Nat)+m)<(1000000:Nat):=zzM 0x15ec3283d07da04f4000007ff68007 [m]
theorem Y154:m<=(63:Nat)->((4:Nat)+m)<=(67:Nat):=zzM 0x50a3f6813d00007ff68007 [m]
theorem Y155:(m+(n+(1:Nat)))<=(67:Nat)->m<(900000:Nat):=zzM 0x15bbbd83d07da000028fd07da40a00007 [m,n]
theorem Y156:(m+(n+(1:Nat)))<=(67:Nat)->m<(1000:Nat):=zzM 0x15fa3d07da000028fd07da40a00007 [m,n]
theorem Y157:(m+(n+(1:Nat)))<=(67:Nat)->p<=(m+(1:Nat))->(p+n)<=(67:Nat):=zzM 0x5428fda6a00007da00a801c28fd07da40a00007 [m,n,p]
theorem Y158:((m:Nat):Int)<(5:Int)->m<(5:Nat):=zzM 0x145f41f6800017d07da28100087 [m]
theorem Y159:m<=(5:Nat)->n=m->n<(100000:Nat):=zzM 0x94387583d07da40028a411c5f68007 [m,n]
theorem Y160:(m+((202:Nat)*n))<=(20000:Nat)->m<=(20000:Nat):=zzM 0x54f183da004f183da46abea00007 [m,n]
theorem Y161:m<=(67:Nat)->n=m->n<(1000000:Nat):=zzM 0x257b0ca0f41f69000a290470a3f68007 [m,n]
theorem Y162:(m+((202:Nat)*(n+(1:Nat))))<=(20000:Nat)->((m+(202:Nat))+((202:Nat)*n))<=(20000:Nat):=zzM 0x54f183da46abe1aaf68000013c60f41f69006abea00007 [m,n]
theorem Y163:(202:Nat)<=(m+n)->(202:Nat)<=((m+(1:Nat))+(n-(1:Nat))):=zzM 0xaa41f69041f680001aaf40a68006abd007 [m,n]
theorem Y164:((m+n)+((202:Nat)*p))<=(20000:Nat)->q<=(201:Nat)->(202:Nat)<=(q+n)->r<=(m+(1:Nat))->((r+(n-(1:Nat)))+((202:Nat)*p))<=(20000:Nat):=zzM 0x12aa453c60f6a1aaf81f6906c000001f6802c007a6b006abd0071a9f6b0074f183da86abea68000007 [m,n,p,q,r]
theorem Y165:m<=(201:Nat)->(202:Nat)<=(m+n)->(n-(1:Nat))<n:=zzM 0x12a2907d07da41000a68006abd0071a9f68007 [m,n]
theorem Y166:((m+n)+((202:Nat)*p))<=(20000:Nat)->m<(900000:Nat):=zzM 0x56eef60f41f680004f183da86abea68000007 [m,n,p]
theorem Y167:((m+n)+((202:Nat)*p))<=(20000:Nat)->(m+((202:Nat)*p))<=(20000:Nat):=zzM 0x153c60f6a1aafa80004f183da86abea68000007 [m,n,p]
inductive V where
 |none |bool (b:dj) |int (i:Int) |str (s:Str)
 |tup (vs:ac V) |mat (i j k:Int)
 |ref (n:Nat) |dget (n:Nat) |scon (n:Nat) |rng (a b c:Int) |raw (a:bz)
 deriving Inhabited
def V.ctorIdx(v:V):Nat:=v.casesOn 0 (λ_=>1) (λ_=>2) (λ_=>3) (λ_=>4) (λ_ _ _=>5) (λ_=>6) (λ_=>7) (λ_=>8) (λ_ _ _=>9) λ_=>10
end
variable{env:Env}{a b:ac Int}
inductive Gn where
 |fresh (lo:Str->ae V)
 |loop (it:Nat) (lo:Str->ae V)
 |last (lo:Str->ae V)
 |run
 |fin
 deriving Inhabited
inductive MO where
 |list (vs:ac V) |ro (vs:ac V)
 |dict (n:Nat) (f:Int->ae V) |eset
 |inst (fs:Str->ae V)
 |gen (g:Gn)
 |itr (o:ae (Nat×Nat))
 deriving Inhabited
def MO.ctorIdx(v:MO):Nat:=v.casesOn (λ_=>0) (λ_=>1) (λ_ _=>2) 3 (λ_=>4) (λ_=>5) (λ_=>6)
noncomputable abbrev MH:=ac MO
variable{H:MH}
structure Lc where
 a:bz
 d:bz
 g:ae Nat:=none
def Lc.has(l:Lc)(b:bz):Prop:=b=l.a\/b=l.d
def Own(ρ:ac Lc)(b:bz):Prop:=∃ l∈ρ,l.has b
def bB(o:Obj):Prop:=match o.data with
 | .seq _ _=>o.cls≠ .type "list"
 | .fields _=>o.cls= .type "builtin_function_or_method" \/o.cls= .type "range"
 |_=>fe
def Imm(h h':lu):Prop:=∀ b o,h.get? b=aa o->bB o->h'.get? b=aa o
theorem Imm.refl(h:lu):Imm h h:=λ_ _ e _=>e
theorem Imm.trans(a:Imm h1 h2)(b:Imm h2 h3):Imm h1 h3:=λx o e i=>b x o (a x o e i) i
noncomputable abbrev aF:bz:=135
noncomputable abbrev dY:bz:=242
mutual
inductive VR(ρ:ac Lc)(h:lu):au->V->Prop
 |none:VR ρ h .none .none
 |bool (b:_):VR ρ h (.bool b) (.bool b)
 |int (i t:_):VR ρ h (.int i t) (.int i)
 |str (s t:_):VR ρ h (.str s t) (.str s)
 |tup {a xs n vs:_}:h.get? a=aa {cls:=.type "tuple",data:=.seq xs n}->VRs ρ h xs.toList vs->VR ρ h (.ref a) (.tup vs)
 |mat {a n i j k t u v dd:_}:h.get? a=aa {cls:=.ref aF,dict:=dd,data:=.seq #[.int i t,.int j u,.int k v] n}->VR ρ h (.ref a) (.mat i j k)
 |ref {n l:_}:ρ[n]? =aa l->VR ρ h (.ref l.a) (.ref n)
 |dget {a n l:_}:ρ[n]? =aa l->h.get? a=aa {cls:=.type "builtin_function_or_method",data:=.fields #[.builtin "dict.get",.ref l.a]}->VR ρ h (.ref a) (.dget n)
 |scon {a n l:_}:ρ[n]? =aa l->h.get? a=aa {cls:=.type "builtin_function_or_method",data:=.fields #[.builtin "set.__contains__",.ref l.a]}->VR ρ h (.ref a) (.scon n)
 |rng {a i j k t u v:_}:IsRange h a i j k t u v->VR ρ h (.ref a) (.rng i j k)
 |raw (a:_):VR ρ h (.ref a) (.raw a)
inductive VRs(ρ:ac Lc)(h:lu):ac au->ac V->Prop
 |nil:VRs ρ h [] []
 |cons {u us v vs:_}:VR ρ h u v->VRs ρ h us vs->VRs ρ h (u::us) (v::vs)
end
theorem aE{α:Type}{a:α}{P:Prop}(e:none=aa a):P:=nomatch e
def VRI(ρ:ac Lc)(h:lu)(x:au):V->Prop
 | .none=>x= .none
 | .bool b=>x= .bool b
 | .int i=>∃ t,x= .int i t
 | .str s=>∃ t,x= .str s t
 | .tup vs=>∃ a xs n,x= .ref a/\h.get? a=aa {cls:=.type "tuple",data:=.seq xs n}/\VRs ρ h xs.toList vs
 | .mat i j k=>∃ a n t u v dd,x= .ref a/\h.get? a=aa {cls:=.ref aF,dict:=dd,data:=.seq #[.int i t,.int j u,.int k v] n}
 | .ref n=>∃ l,x= .ref l.a/\ρ[n]? =aa l
 | .dget n=>∃ a l,x= .ref a/\ρ[n]? =aa l/\h.get? a=aa {cls:=.type "builtin_function_or_method",data:=.fields #[.builtin "dict.get",.ref l.a]}
 | .scon n=>∃ a l,x= .ref a/\ρ[n]? =aa l/\h.get? a=aa {cls:=.type "builtin_function_or_method",data:=.fields #[.builtin "set.__contains__",.ref l.a]}
 | .rng i j k=>∃ a t u v,x= .ref a/\IsRange h a i j k t u v
 | .raw a=>x= .ref a
theorem VR.inv(r:VR ρ h u v):VRI ρ h u v:=by
 cases r with
 |none=>exact rfl
 |bool=>exact rfl
 |int i t=>exact⟨t,rfl⟩
 |str s t=>exact⟨t,rfl⟩
 |tup g rs=>exact⟨_,_,_,rfl,g,rs⟩
 |mat g=>exact⟨_,_,_,_,_,_,rfl,g⟩
 |ref g=>exact⟨_,rfl,g⟩
 |dget g g'=>exact⟨_,_,rfl,g,g'⟩
 |scon g g'=>exact⟨_,_,rfl,g,g'⟩
 |rng g=>exact⟨_,_,_,_,rfl,g⟩
 |raw=>exact rfl
theorem aQ(e:ρ<+:ρ'){n:Nat}{l:Lc}(h:ρ[n]? =aa l):ρ'[n]? =aa l:=by
 refine xE e λt z1=>?_;subst z1
 exact rwL (dl (List.getElem?_eq_some_iff.mp h).1) h
theorem VR.mono(e:ρ<+:ρ')(i:Imm h h')(r:VR ρ h u v):VR ρ' h' u v:=by
 refine VR.rec (motive_2:=λus vs _=>VRs ρ' h' us vs) .none .bool .int .str ?_ ?_ ?_ ?_ ?_ ?_ .raw .nil ?_ r
 ·intro a xs n vs g _ ih;exact .tup (i _ _ g (by simp [bB])) ih
 ·intro a n x y z t u v dd g;exact .mat (i _ _ g (by simp [bB]))
 ·intro n l g;exact .ref (aQ e g)
 ·intro a n l g g';exact .dget (aQ e g) (i _ _ g' (by simp [bB]))
 ·intro a n l g g';exact .scon (aQ e g) (i _ _ g' (by simp [bB]))
 ·intro a x y z t u v g;exact .rng (i _ _ g (by simp [bB]))
 ·intro u us v vs _ _ a b;exact .cons a b
theorem VRs.ind{P:ac au->ac V->Prop}(n:P [] [])(c:∀ {u us v vs},VR ρ h u v->VRs ρ h us vs->P us vs->P (u::us) (v::vs))(r:VRs ρ h us vs):P us vs:=VRs.rec (motive_1:=λ_ _ _=>vx) trivial (λ_=>trivial) (λ_ _=>trivial) (λ_ _=>trivial) (λ_ _ _=>trivial) (λ_=>trivial) (λ_=>trivial) (λ_ _=>trivial) (λ_ _=>trivial) (λ_=>trivial) (λ_=>trivial) n (λa b _ ih=>c a b ih) r
theorem VRs.mono(e:ρ<+:ρ')(i:Imm h h')(r:VRs ρ h us vs):VRs ρ' h' us vs:=r.ind .nil λa _ ih=>.cons (a.mono e i) ih
theorem VRs.length(r:VRs ρ h us vs):us.length=vs.length:=r.ind (P:=λus vs=>us.length=vs.length) rfl λ_ _ ih=>bg Nat.succ ih
theorem VRs.get(r:VRs ρ h us vs):∀ {i:Nat}{v:V},vs[i]? =aa v->∃ u,us[i]? =aa u/\VR ρ h u v:=r.ind (P:=λus vs=>∀ {i:Nat}{v:V},vs[i]? =aa v->∃ u,us[i]? =aa u/\VR ρ h u v) (λe=>aE (List.getElem?_nil.symm.trans e)) λ{u us v vs} a _ ih {i w} e=>by
  cases i with
  |zero=>exact⟨u,rfl,Option.some.inj e▸a⟩
  |succ i=>exact ih e
theorem VRs.append(r:VRs ρ h us vs)(b:VRs ρ h us' vs'):VRs ρ h (us++us') (vs++vs'):=r.ind (P:=λus vs=>VRs ρ h (us++us') (vs++vs')) b λa _ ih=>.cons a ih
theorem VRs.take(r:VRs ρ h us vs):∀ n:Nat,VRs ρ h (us.take n) (vs.take n):=r.ind (P:=λus vs=>∀ n:Nat,VRs ρ h (us.take n) (vs.take n)) (λn=>by exact rwL List.take_nil (rwL List.take_nil .nil)) λa _ ih n=>by
  cases n with
  |zero=>exact .nil
  |succ n=>exact .cons a (ih n)
theorem VRs.drop(r:VRs ρ h us vs):∀ n:Nat,VRs ρ h (us.drop n) (vs.drop n):=r.ind (P:=λus vs=>∀ n:Nat,VRs ρ h (us.drop n) (vs.drop n)) (λn=>by exact rwL List.drop_nil (rwL List.drop_nil .nil)) λa b ih n=>by
  cases n with
  |zero=>exact .cons a b
  |succ n=>exact ih n
def OV(ρ:ac Lc)(h:lu):ae au->ae V->Prop
 |none,none=>vx
 |some u,aa v=>VR ρ h u v
 |_,_=>fe
theorem OV.mono(e:ρ<+:ρ')(i:Imm h h'):∀ {u:ae au}{v:ae V},OV ρ h u v->OV ρ' h' u v
 |none,none,_=>trivial
 |some _,aa _,x=>VR.mono e i x
 |none,aa _,x=>x.elim
 |some _,none,x=>x.elim
def dI:ac Str:=["isjunk","a","b","autojunk","matching_blocks","opcodes","fullbcount","b2j","bjunk","bpopular"]
structure Cx where
 prog:se
 w:jn
 base:ak
 lim:base.heap.NoLimit
 GR:ac Lc->ak->Lc->Gn->Prop
 mono:∀ {ρ ρ':ac Lc}{s s':ak}{l:Lc}{g:Gn},ρ<+:ρ'->Imm s.heap s'.heap->(∀ o,s.heap.get? l.a=aa o->s'.heap.get? l.a=aa o)->(∀ o,s.heap.get? l.d=aa o->s'.heap.get? l.d=aa o)->
  (∀ k x,l.g=aa k->s.gens[k]? =aa x->s'.gens[k]? =aa x)->GR ρ s l g->GR ρ' s' l g
 here:∀ {ρ s l g},GR ρ s l g->∃ o o',s.heap.get? l.a=aa o/\s.heap.get? l.d=aa o'/\¬bB o/\¬bB o'
variable{C:Cx}
noncomputable abbrev Cx.M(C:Cx):xw:=gz C.prog C.w
def OR(C:Cx)(ρ:ac Lc)(s:ak)(l:Lc):MO->Prop
 | .list vs=>l.d=l.a/\l.g=none/\∃ xs n,IsL s.heap l.a xs n/\VRs ρ s.heap xs.toList vs
 | .ro vs=>l.d=l.a/\l.g=none/\∃ xs,C.base.heap.IsList l.a xs/\VRs ρ s.heap xs.toList vs
 | .dict n f=>l.d=l.a/\l.g=none/\∃ kvs:ac (Int×au),s.heap.DictOf (si C.prog C.w) l.a kvs/\kvs.length<=n/\∀ k,OV ρ s.heap (ox kvs k) (f k)
 | .eset=>l.d=l.a/\l.g=none/\∃ n t,s.heap.get? l.a=aa {cls:=.type "set",data:=.set #[] n t}/\t.fits 0=ag
 | .inst fs=>l.g=none/\l.d≠l.a/\(∃ o,s.heap.get? l.a=aa o/\o.cls= .ref dY/\o.data= .plain/\o.dict=aa l.d)/\∃ m,s.heap.Ns1 l.d m/\s.heap.ExactDictFk l.d/\Within m dI/\∀ x,OV ρ s.heap (m x) (fs x)
 | .gen g=>C.GR ρ s l g
 | .itr none=>l.d=l.a/\l.g=none/\∃ o,s.heap.get? l.a=aa o/\¬bB o
 | .itr (aa p)=>l.d=l.a/\l.g=none/\∃ li,ρ[p.1]? =aa li/\s.heap.IsListIter l.a li.a p.2
structure Sim(C:Cx)(H:MH)(ρ:ac Lc)(s:ak):Prop where
 len:ρ.length=H.length
 keep:∀ b o,C.base.heap.get? b=aa o->s.heap.get? b=aa o
 objs:∀ (i:Nat) (m:MO) (l:Lc),H[i]? =aa m->ρ[i]? =aa l->OR C ρ s l m
 ro:∀ (i:Nat) (l:Lc),ρ[i]? =aa l->(∃ vs,H[i]? =aa (.ro vs))\/(C.base.heap.get? l.a=none/\C.base.heap.get? l.d=none)
 disj:∀ (i j:Nat) (li lj:Lc),ρ[i]? =aa li->ρ[j]? =aa lj->i≠j->∀ b,li.has b->¬lj.has b
 disjG:∀ (i j:Nat) (li lj:Lc) (k:Nat),ρ[i]? =aa li->ρ[j]? =aa lj->i≠j->li.g=aa k->lj.g≠aa k
 os:s.os=C.base.os
 bare:pv s.gens
structure Nx(ρ:ac Lc)(W:bz->Prop)(s:ak)(ρ':ac Lc)(s':ak):Prop where
 pre:ρ<+:ρ'
 new:∀ l∈ρ'.drop ρ.length,s.heap.get? l.a=none/\s.heap.get? l.d=none
 kp:∀ b o,s.heap.get? b=aa o->¬Own ρ b->¬W b->s'.heap.get? b=aa o
 imm:Imm s.heap s'.heap
 al:∀ b o,s.heap.get? b=aa o->∃ o',s'.heap.get? b=aa o'
theorem Nx.own(N:Nx ρ W s ρ' s'){b:bz}(hb:s.heap.get? b=aa o)(h: ¬Own ρ b): ¬Own ρ' b:=by
 rintro ⟨l,hl,hh⟩
 refine xE N.pre λt z2=>?_;subst z2
 refine Or.elim (ij.mp hl) (λq=>(h ⟨l,q,hh⟩)) λq=>?_
 ·have:=N.new l (by simpa using q)
  rcases hh with rfl |rfl
  ·rw[this.1]at hb;cases hb
  ·rw[this.2]at hb;cases hb
theorem Nx.refl:Nx ρ W s ρ s:=⟨be _,λl hl=>by simp at hl,λ_ _ e _ _=>e,.refl _,λ_ o e=>⟨o,e⟩⟩
theorem Nx.trans(a:Nx ρ W s ρ1 s1)(b:Nx ρ1 W s1 ρ2 s2):Nx ρ W s ρ2 s2:=by
 refine⟨a.pre.trans b.pre,λl hl=>(xE a.pre λt z3=>?_),λx o e ho hw=>b.kp x o (a.kp x o e ho hw) (a.own e ho) hw,a.imm.trans b.imm,λx o e=>xE (a.al x o e) λo' e'=>b.al x o' e'⟩;subst z3
 refine xE b.pre λt' z4=>?_;subst z4
 rw[dz,tm]at hl
 refine Or.elim (ij.mp hl) (λq=>(a.new l (by simpa using q))) λq=>?_
 ·have n:=b.new l (by simpa using q)
  refine⟨?_,?_⟩
  ·cases e:s.heap.get? l.a with
   |none=>rfl
   |some o=>refine xE (a.al _ _ e) λo' e'=>?_;rw[n.1]at e';cases e'
  ·cases e:s.heap.get? l.d with
   |none=>rfl
   |some o=>refine xE (a.al _ _ e) λo' e'=>?_;rw[n.2]at e';cases e'
theorem Nx.weaken(a:Nx ρ W s ρ' s')(h:∀ b,W b->W' b):Nx ρ W' s ρ' s':=⟨a.pre,a.new,λb o e ho hw=>a.kp b o e ho λq=>hw (h b q),a.imm,a.al⟩
def noW:bz->Prop:=λ_=>fe
theorem OR.mono(e:ρ<+:ρ')(i:Imm s.heap s'.heap)(h1:∀ o,s.heap.get? l.a=aa o->s'.heap.get? l.a=aa o)(h2:∀ o,s.heap.get? l.d=aa o->s'.heap.get? l.d=aa o)(h3:∀ k x,l.g=aa k->s.gens[k]? =aa x->s'.gens[k]? =aa x)(r:OR C ρ s l m):OR C ρ' s' l m:=by
 cases m with
 |list vs=>exact jU r λa g xs n x y=>⟨a,g,xs,n,h1 _ x,y.mono e i⟩
 |ro vs=>exact pS r λa g xs x y=>⟨a,g,xs,x,y.mono e i⟩
 |dict n f=>refine vD r λa g kvs z5 x y=>?_;obtain⟨o,es,ep,ho,q⟩:=z5;exact⟨a,g,kvs,⟨o,es,ep,h1 _ ho,q⟩,x,λk=>(y k).mono e i⟩
 |eset=>exact jU r λa g n t x y=>⟨a,g,n,t,h1 _ x,y⟩
 |inst fs=>refine mU r λg ne z6 m z7 z8 w y=>xEA z6 λo a b=>?_;obtain⟨o',es,ep,ho,q⟩:=z7;refine xEA z8 λod hd x=>?_;exact⟨g,ne,⟨o,h1 _ a,b⟩,m,⟨o',es,ep,h2 _ ho,q⟩,⟨od,h2 _ hd,x⟩,w,λk=>(y k).mono e i⟩
 |gen g=>exact C.mono e i h1 h2 h3 r
 |itr p=>cases p with
  |none=>exact pS r λa g o y z=>⟨a,g,o,h1 _ y,z⟩
  |some p=>exact aFe r λa g li x o y z=>⟨a,g,li,aQ e x,o,h1 _ y,z⟩
theorem Sim.same(S:Sim C H ρ s)(hk:∀ b o,s.heap.get? b=aa o->(Own ρ b\/(C.base.heap.get? b).isSome=ag)->s'.heap.get? b=aa o)(i:Imm s.heap s'.heap)(hg:∀ (k:Nat) (x:qd),s.gens[k]? =aa x->s'.gens[k]? =aa x)(hos:s'.os=s.os)(hb:pv s'.gens):Sim C H ρ s':=by
 exact⟨S.len,λb o e=>hk b o (S.keep b o e) (.inr (by rw[e];rfl)),λj m l hm hj=>((S.objs j m l hm hj).mono (be _) i (λo e=>hk _ o e (.inl ⟨l,(dc hj),.inl rfl⟩)) (λo e=>hk _ o e (.inl ⟨l,(dc hj),.inr rfl⟩)) (λk x _ e=>hg k x e)),S.ro,S.disj,S.disjG,hos.trans S.os,hb⟩
noncomputable abbrev Lo:=Str->ae V
variable{lo:Lo}
def Wr(env:Env)(b:bz):Prop:=b=env.locals\/∃ x,env.cells.lookup x=aa b
structure Fm(C:Cx)(env:Env)(ρ:ac Lc)(s:ak)(lo:Lo):Prop where
 fn:env.scope.kind= .function
 gl:env.globals=ew
 bi:env.builtins=jv
 ns:∃ m,s.heap.Ns env.locals m/\∀ x,env.kindOf x=aa .local->OV ρ s.heap (m x) (lo x)
 cl:∀ x,env.kindOf x=aa .cell\/env.kindOf x=aa .free->∃ c o u,env.cells.lookup x=aa c/\s.heap.get? c=aa o/\o.data= .cell u/\OV ρ s.heap u (lo x)
 own:∀ b,Wr env b->¬Own ρ b/\C.base.heap.get? b=none
 dis:∀ x c,env.cells.lookup x=aa c->c≠env.locals
 inj:∀ x y c,env.cells.lookup x=aa c->env.cells.lookup y=aa c->x=y
 alv:∀ b,Wr env b->∃ o,s.heap.get? b=aa o
theorem Fm.next(F:Fm C env ρ s lo)(N:Nx ρ W s ρ' s')(hw:∀ b,Wr env b->¬W b):Fm C env ρ' s' lo:=by
 refine xEA F.ns λm z9 hm=>?_;obtain⟨o,es,ep,ho,hr⟩:=z9
 have k:=λb o hb e=>N.kp b o e (F.own b hb).1 (hw b hb)
 exact⟨F.fn,F.gl,F.bi,⟨m,⟨o,es,ep,k _ _ (.inl rfl) ho,hr⟩,λx hx=>(hm x hx).mono N.pre N.imm⟩,λx hx=>(cN (F.cl x hx) λc o u h1 h2 h3 h4=>⟨c,o,u,h1,k _ _ (.inr ⟨x,h1⟩) h2,h3,h4.mono N.pre N.imm⟩),λb hb=>⟨(xE (F.alv b hb) λo e=>N.own e (F.own b hb).1),(F.own b hb).2⟩,F.dis,F.inj,λb hb=>xE (F.alv b hb) λo e=>N.al b o e⟩
def Room(r:Nat)(A:ef):Prop:=A.handled=none/\A.depth+10*r<=700/\A.units+40*r<=8000
theorem Room.lt(h:Room r A):A.depth<recursionLimit:=by exact(A0 h.2.1:A.depth<1000)
noncomputable abbrev NoE:au->ak->Prop:=λ_ _=>fe
noncomputable abbrev EK:=V->MH->Prop
noncomputable abbrev EF:=Lo->MH->EK->Prop
inductive EPo(C:Cx)(ρ:ac Lc)(s:ak)(H':MH)(v:V)(x:au)(s':ak):Prop
 |mk (ρ':ac Lc) (S:Sim C H' ρ' s') (N:Nx ρ noW s ρ' s') (r:VR ρ' s'.heap x v):EPo C ρ s H' v x s'
inductive bR(C:Cx)(ρ:ac Lc)(s:ak)(Q:EK)(x:au)(s':ak):Prop
 |mk {ρ':ac Lc}{v:V}{H':MH} (S:Sim C H' ρ' s') (N:Nx ρ noW s ρ' s') (r:VR ρ' s'.heap x v) (q:Q v H'):bR C ρ s Q x s'
def EV(C:Cx)(r:Nat)(env:Env)(e:Expr)(f:EF):Prop:=∀ ⦃A:ef⦄⦃s:ak⦄⦃ρ:ac Lc⦄⦃H:MH⦄⦃lo:Lo⦄⦃Q:EK⦄,Room r A->Sim C H ρ s->Fm C env ρ s lo->f lo H Q->
  ar C.M A (iw e env) (bR C ρ s Q) NoE s
theorem wmN{s:ak}(h:ar M A t P NoE s)(k:∀ a s',P a s'->Q a s'):ar M A t Q E s:=dv h k λ_ _ z=>z.elim
theorem bR.run{K:au->ak->Prop}(h:ar M A t (bR C ρ s Q) NoE s)(k:∀ {x s' ρ' v H'},Sim C H' ρ' s'->Nx ρ noW s ρ' s'->VR ρ' s'.heap x v->Q v H'->K x s'):ar M A t K E s:=wmN h λ_ _ z=>z.casesOn λS N r q=>k S N r q
theorem EV.run(h:EV C r env e f){K:au->ak->Prop}(hr:Room r A)(S:Sim C H ρ s)(F:Fm C env ρ s lo)(q:f lo H Q)(k:∀ {x s' ρ' v H'},Sim C H' ρ' s'->Nx ρ noW s ρ' s'->VR ρ' s'.heap x v->Q v H'->K x s'):ar C.M A (iw e env) K E s:=bR.run (h hr S F q) k
theorem EPo.post(h:EPo C ρ s H' v x s')(q:Q v H'):bR C ρ s Q x s':=by cases h with |mk _ S N r=>exact ⟨S,N,r,q⟩
theorem Fm.nx(F:Fm C env ρ s lo)(N:Nx ρ noW s ρ' s'):Fm C env ρ' s' lo:=F.next N λ_ _ z=>z
theorem VR.nx(r:VR ρ s.heap u v)(N:Nx ρ W s ρ' s'):VR ρ' s'.heap u v:=r.mono N.pre N.imm
theorem VRs.nx(r:VRs ρ s.heap us vs)(N:Nx ρ W s ρ' s'):VRs ρ' s'.heap us vs:=r.mono N.pre N.imm
theorem bR.from(N:Nx ρ noW s ρ1 s1)(p:bR C ρ1 s1 Q x s'):bR C ρ s Q x s':=by cases p with |mk S N' r q=>exact ⟨S,N.trans N',r,q⟩
theorem EPo.from(N:Nx ρ noW s ρ1 s1)(p:EPo C ρ1 s1 H' v x s'):EPo C ρ s H' v x s':=by cases p with |mk ρ' S N' r=>exact ⟨ρ',S,N.trans N',r⟩
theorem bG(h:lu):h.get? h.objs.size=none:=by
 cases e:h.get? h.objs.size with
 |none=>rfl
 |some o=>exact ba (Heap.lt_size e) (Nat.lt_irrefl _)
theorem Sim.toks(S:Sim C H ρ s)(k:Nat):Sim C H ρ {s with toks:=k}:=S.same (λ_ _ e _=>e) (.refl _) (λ_ _ e=>e) rfl S.bare
theorem Nx.toks(k:Nat):Nx ρ W s ρ {s with toks:=k}:=⟨be _,λl hl=>by simp at hl,λ_ _ e _ _=>e,.refl _,λ_ o e=>⟨o,e⟩⟩
theorem fR(h:lu)(o:Obj):Imm h (h.push o):=λb x e _=>Heap.get?_push_of_some o e
theorem Sim.push(S:Sim C H ρ s)(o:Obj):Sim C H ρ {s with heap:=s.heap.push o}:=S.same (λ_ _ e _=>Heap.get?_push_of_some o e) (fR _ _) (λ_ _ e=>e) rfl S.bare
theorem Nx.push(o:Obj):Nx ρ W s ρ {s with heap:=s.heap.push o}:=⟨be _,λl hl=>by simp at hl,λ_ _ e _ _=>Heap.get?_push_of_some o e,fR _ _,λ_ x e=>⟨x,Heap.get?_push_of_some o e⟩⟩
theorem Sim.live(S:Sim C H ρ s){i:Nat}(hl:ρ[i]? =aa l):(∃ o,s.heap.get? l.a=aa o/\¬bB o)/\∃ o,s.heap.get? l.d=aa o/\¬bB o:=by
 have hlt:i<H.length:=by exact rwR S.len ((List.getElem?_eq_some_iff.mp hl).1)
 have r:=S.objs i H[i] l (az hlt) hl
 revert r
 cases H[i] with
 |list vs=>rintro ⟨a,g,xs,n,x,y⟩;exact rwL a ⟨⟨_,x,by simp [bB]⟩,⟨_,x,by simp [bB]⟩⟩
 |ro vs=>rintro ⟨a,g,xs,⟨o,x,hc,n,hd⟩,y⟩;rw[a];exact⟨⟨_,(S.keep _ _ x),by simp [bB,hd,hc]⟩,⟨_,(S.keep _ _ x),by simp [bB,hd,hc]⟩⟩
 |dict n f=>rintro ⟨a,g,kvs,⟨o,es,ep,ho,hc,hd,_⟩,_⟩;exact rwL a ⟨⟨_,ho,by simp [bB,hd]⟩,⟨_,ho,by simp [bB,hd]⟩⟩
 |eset=>rintro ⟨a,g,n,t,x,y⟩;rw[a];exact⟨⟨_,x,by simp [bB]⟩,⟨_,x,by simp [bB]⟩⟩
 |inst fs=>rintro ⟨g,ne,⟨o,a,_,b,_⟩,m,⟨o',es,ep,ho,hd,q⟩,_⟩;exact⟨⟨_,a,by simp [bB,b]⟩,⟨_,ho,by simp [bB,hd]⟩⟩
 |gen g=>exact λr=>(xEEAAA (C.here r) λo o' h1 h2 h3 h4=>⟨⟨o,h1,h3⟩,⟨o',h2,h4⟩⟩)
 |itr p=>cases p with
  |none=>rintro ⟨a,g,o,y,z⟩;rw[a];exact⟨⟨o,y,z⟩,⟨o,y,z⟩⟩
  |some p=>rintro ⟨a,g,li,x,o,y,z1,z2⟩;rw[a];exact⟨⟨o,y,by simp [bB,z1,z2]⟩,⟨o,y,by simp [bB,z1,z2]⟩⟩
theorem eF(hk:∀ b o,h.get? b=aa o->h'.get? b=aa o):Imm h h':=λb o e _=>hk b o e
theorem gW{α:Type}{ρ:ac α}{l l':α}(h:(ρ++[l])[i]? =aa l'):ρ[i]? =aa l'\/(i=ρ.length/\l'=l):=by
 refine Or.elim (mw i ρ.length) (λq=>(.inl (rwR (dl q) h))) λq=>?_
 ·rw[dg q]at h
  cases e:i-ρ.length with
  |zero=>rw[e]at h;exact .inr ⟨Nat.le_antisymm (Nat.le_of_sub_eq_zero e) q,(Option.some.inj h).symm⟩
  |succ n=>rw[e]at h;cases h
theorem j6(S:Sim C H ρ s){b:bz}(h:s.heap.get? b=none):C.base.heap.get? b=none:=by
 cases e:C.base.heap.get? b with
 |none=>rfl
 |some o=>exact cyM (rwR (S.keep _ _ e) h)
theorem qC{C:Cx}{H:MH}{ρ:ac Lc}{s:ak}(S:Sim C H ρ s){l:Lc}(ha:s.heap.get? l.a=none)(hd:s.heap.get? l.d=none){b:bz}(h:l.has b): ¬Own ρ b:=by
 rintro ⟨l',hl,hb⟩
 refine xE (oh hl) λi hi=>?_
 refine xAEA (S.live hi) λz11 o' h2 _=>xEA z11 λo h1 _=>?_
 have q:s.heap.get? b=none:=by rcases h with rfl |rfl<;>assumption
 rcases hb with rfl |rfl
 ·cases (q▸h1)
 ·cases (q▸h2)
theorem Sim.new(S:Sim C H ρ s)(hk:∀ b o,s.heap.get? b=aa o->s'.heap.get? b=aa o)(hg:∀ (k:Nat) (x:qd),s.gens[k]? =aa x->s'.gens[k]? =aa x)(hos:s'.os=s.os)(hb:pv s'.gens)(ha:s.heap.get? l.a=none)(hd:s.heap.get? l.d=none)(hf:∀ k,l.g=aa k->∀ l'∈ρ,l'.g≠aa k)(hm:OR C (ρ++[l]) s' l m):Sim C (H++[m]) (ρ++[l]) s'/\∀ W,Nx ρ W s (ρ++[l]) s':=by
 have fo:= @qC C H ρ s S l ha hd
 refine⟨⟨by rw[am,am,S.len];rfl,λb o e=>hk b o (S.keep b o e),λi x l' hx hl=>?_,λi l' hl=>?_,λi j li lj hi hj hne b h1 h2=>?_,λi j li lj k hi hj hne h1 h2=>?_,hos.trans S.os,hb⟩,
  λW=>⟨mi _ _,λl' hl=>?_,λb o e _ _=>hk b o e,eF hk,λb o e=>⟨o,hk b o e⟩⟩⟩
 ·rcases gW hl with q |⟨rfl,rfl⟩
  ·exact(S.objs i x l' (rwR (dl (by exact rwR S.len ((List.getElem?_eq_some_iff.mp q).1))) hx) q).mono (mi _ _) (eF hk) (λo e=>hk _ o e) (λo e=>hk _ o e) (λk y _ e=>hg k y e)
  ·rw[S.len,dg (ce _),qe]at hx
   exact cxS hx hm
 ·rcases gW hl with q |⟨rfl,rfl⟩
  ·exact rwL (dl (by exact rwR S.len ((List.getElem?_eq_some_iff.mp q).1))) (S.ro i l' q)
  ·exact .inr ⟨j6 S ha,j6 S hd⟩
 ·rcases gW hi with q |⟨e1,rfl⟩<;>rcases gW hj with q' |⟨e2,rfl⟩
  ·exact S.disj i j li lj q q' hne b h1 h2
  ·exact fo h2 ⟨li,dc q,h1⟩
  ·exact fo h1 ⟨lj,dc q',h2⟩
  ·exact hne (e1.trans e2.symm)
 ·rcases gW hi with q |⟨e1,rfl⟩<;>rcases gW hj with q' |⟨e2,rfl⟩
  ·exact S.disjG i j li lj k q q' hne h1 h2
  ·exact hf k h2 li (dc q) h1
  ·exact hf k h1 lj (dc q') h2
  ·exact hne (e1.trans e2.symm)
 ·cases cy.mp (tm▸hl);exact⟨ha,hd⟩
theorem Sim.grow(S:Sim C H ρ s)(hk:∀ b o,s.heap.get? b=aa o->h'.get? b=aa o)(ha:s.heap.get? l.a=none)(hd:s.heap.get? l.d=none)(hlg:l.g=none)(hm:OR C (ρ++[l]) {s with heap:=h',toks:=k} l m):Sim C (H++[m]) (ρ++[l]) {s with heap:=h',toks:=k}/\∀ W,Nx ρ W s (ρ++[l]) {s with heap:=h',toks:=k}:=S.new (s':= {s with heap:=h',toks:=k}) hk (λ_ _ e=>e) rfl S.bare ha hd (λk e=>by cases (hlg▸e)) hm
theorem Sim.last(S:Sim C H ρ s):(ρ++[l])[H.length]? =aa l:=by rw[<-S.len];simp
theorem Sim.alloc(S:Sim C H ρ s)(o:Obj)(m:MO)(hm:OR C (ρ++[⟨s.heap.objs.size,s.heap.objs.size,none⟩]) {s with heap:=s.heap.push o} ⟨s.heap.objs.size,s.heap.objs.size,none⟩ m):
  Sim C (H++[m]) (ρ++[⟨s.heap.objs.size,s.heap.objs.size,none⟩]) {s with heap:=s.heap.push o}:=(S.grow (λ_ _ e=>Heap.get?_push_of_some o e) (bG _) (bG _) rfl hm).1
theorem Nx.alloc(o:Obj):Nx ρ W s (ρ++[⟨s.heap.objs.size,s.heap.objs.size,none⟩]) {s with heap:=s.heap.push o}:=⟨mi _ _,λl hl=>by simp at hl;exact rwL hl ⟨bG _,bG _⟩,λ_ _ e _ _=>Heap.get?_push_of_some o e,fR _ _,λ_ x e=>⟨x,Heap.get?_push_of_some o e⟩⟩
theorem Sim.upd(S:Sim C H ρ s)(hl:ρ[i]? =aa l)(hH:H[i]? =aa m)(hro:∀ vs,m≠ .ro vs)(hk:∀ b o,s.heap.get? b=aa o->¬l.has b->s'.heap.get? b=aa o)(hi:Imm s.heap s'.heap)(hg:s'.gens=s.gens)(hos:s'.os=s.os)(hm:OR C ρ s' l m')(hnr:∀ vs,m'≠ .ro vs):Sim C (H.set i m') ρ s':=by
 have hbase:C.base.heap.get? l.a=none/\C.base.heap.get? l.d=none:=by
  rcases S.ro i l hl with ⟨vs,e⟩ |e
  ·exact ba (Option.some.inj (hH▸e)) (hro vs)
  ·exact e
 refine⟨by simp [S.len],λb o e=>hk b o (S.keep b o e) (λq=>by rcases q with rfl |rfl<;>simp_all),λj x lj hx hj=>?_,λj lj hj=>?_,S.disj,S.disjG,hos.trans S.os,by exact rwL hg S.bare⟩
 ·by_cases e:j=i
  ·subst e
   rw[hl]at hj;refine cxS hj ?_
   rw[bn ((List.getElem?_eq_some_iff.mp hH).1)]at hx;refine cxS hx ?_
   exact hm
  ·have d:=S.disj j i lj l hj hl e
   exact(S.objs j x lj (rwR (ei (Ne.symm e)) hx) hj).mono (be _) hi (λo q=>hk _ o q (d _ (.inl rfl))) (λo q=>hk _ o q (d _ (.inr rfl))) (λk y _ q=>by exact rwL hg q)
 ·by_cases e:j=i
  ·subst e
   rw[hl]at hj;refine cxS hj ?_
   exact .inr hbase
  ·exact rwL (ei (Ne.symm e)) (S.ro j lj hj)
theorem EPo.here(S:Sim C H ρ s)(r:VR ρ s.heap x v):EPo C ρ s H v x s:=⟨ρ,S,.refl,r⟩
theorem EPo.tok(S:Sim C H ρ s)(r:VR ρ s.heap x v):EPo C ρ s H v x {s with toks:=k}:=⟨ρ,S.toks _,.toks _,r⟩
theorem bR.here(S:Sim C H ρ s)(r:VR ρ s.heap x v)(q:Q v H):bR C ρ s Q x s:=⟨S,.refl,r,q⟩
theorem bR.tok(S:Sim C H ρ s)(r:VR ρ s.heap x v)(q:Q v H):bR C ρ s Q x {s with toks:=k}:=⟨S.toks _,.toks _,r,q⟩
def eK(v:V):EF:=λ_ H Q=>Q v H
theorem EV.int{k}{pos}:EV C r env (.Constant (.int i) k pos) (eK (.int i)):=λ_ _ _ _ _ _ _ S _ q=>wpAny_Constant_int (.tok S (.int _ _) q)
theorem EV.none{k}{pos}:EV C r env (.Constant .none k pos) (eK .none):=λ_ _ _ _ _ _ _ S _ q=>wpAny_Constant_none (.here S .none q)
theorem EV.bool{b}{k}{pos}:EV C r env (.Constant (.bool b) k pos) (eK (.bool b)):=λ_ _ _ _ _ _ _ S _ q=>wpAny_Constant_bool (.here S (.bool b) q)
theorem EV.str{k}{pos}:EV C r env (.Constant (.str x) k pos) (eK (.str x)):=λ_ _ _ _ _ _ _ S _ q=>wpAny_Constant_str (.tok S (.str _ _) q)
def Lf{α:Type}(o:ae α)(Q:α->Prop):Prop:=match o with |some p=>Q p |none=>fe
theorem Lf.elim{P:Prop}(h:Lf o Q)(k:∀ p,o=aa p->Q p->P):P:=match o,h,k with
 |some p,h,k=>k p rfl h
theorem Lf.mk{p:α}(e:o=aa p)(q:Q p):Lf o Q:=by exact rwL e q
def Lp(o:ae (V×MH))(Q:EK):Prop:=Lf o λp=>Q p.1 p.2
def eN(x:Str):EF:=λlo H Q=>Lf (lo x) λv=>Q v H
theorem OV.elim{P:Prop}(e:w=aa v)(o:OV ρ h u w)(k:∀ x,u=aa x->VR ρ h x v->P):P:=by
 subst e
 cases u with
 |none=>exact False.elim o
 |some x=>exact k x rfl o
theorem yZ{A:ef}{P:Prop}(F:Fm C env ρ s lo)(hx:lo x=aa v)(hk:env.kindOf x=aa .cell\/env.kindOf x=aa .free)(k:∀ c o u,env.cells.lookup x=aa c->s.heap.get? c=aa o->o.data= .cell (aa u)->VR ρ s.heap u v->P):P:=by
 exact cN (F.cl x hk) λc o u h1 h2 h3 h4=>h4.elim hx λu e r=>k c o u h1 h2 (h3.trans (by rw[e])) r
theorem pY(hk:env.kindOf x=aa .local\/env.kindOf x=aa .cell\/env.kindOf x=aa .free)(hc:(x==("__classdict__" :Str))=af)(F:Fm C env ρ s lo)(hx:lo x=aa v)(k:∀ u,VR ρ s.heap u v->Q u s):ar C.M A (loadName env x) Q E s:=by
 refine Or.elim hk (λhk=>(xEA F.ns λm hns hm=>(hm x hk).elim hx λu e r=>wpAny_loadName_local F.fn hk hns e (k u r))) λz12=>Or.elim z12 (λhk=>?_) λhk=>?_
 ·exact yZ (A:=A) F hx (.inl hk) λc o u h1 h2 h3 r=>wpAny_loadName_cell F.fn hk h1 ⟨o,h2,h3⟩ (k u r)
 ·exact yZ (A:=A) F hx (.inr hk) λc o u h1 h2 h3 r=>wpAny_loadName_free F.fn hk h1 ⟨o,h2,h3⟩ (k u r) hc
theorem EV.name{pos}(hk:env.kindOf x=aa .local\/env.kindOf x=aa .cell\/env.kindOf x=aa .free)(hd:(x==("__debug__" :Str))=af)(hc:(x==("__classdict__" :Str))=af):EV C r env (.Name x pos) (eN x):=λ_ _ _ _ _ _ _ S F q=>q.elim λ_ hx q=>wpAny_Name (pY hk hc F hx λ_ rv=>.here S rv q) hd
noncomputable abbrev OpF:=V->V->MH->ae (V×MH)
def OpR(C:Cx)(r:Nat)(op:au->au->Sem au)(g:OpF):Prop:=∀ ⦃A:ef⦄⦃s:ak⦄⦃ρ:ac Lc⦄⦃H:MH⦄⦃a b:au⦄⦃va vb:V⦄⦃Q:EK⦄,Room r A->Sim C H ρ s->VR ρ s.heap a va->VR ρ s.heap b vb->Lp (g va vb H) Q->
  ar C.M A (op a b) (bR C ρ s Q) NoE s
theorem OpR.of(h:∀ {A:ef}{s:ak}{ρ:ac Lc}{H:MH}{a b:au}{va vb v:V}{H':MH},Room r A->Sim C H ρ s->VR ρ s.heap a va->VR ρ s.heap b vb->g va vb H=aa (v,H')-> ar C.M A (op a b) (EPo C ρ s H' v) NoE s):OpR C r op g:=λ_ _ _ _ _ _ _ _ _ hr S ra rb q=>q.elim λ_ e q=>wmN (h hr S ra rb e) λ_ _ p=>p.post q
def aA(g:OpF)(f1 f2:EF):EF:=λlo H Q=>f1 lo H λa H1=>f2 lo H1 λb H2=>Lp (g a b H2) Q
theorem EV.two(h1:EV C r env e1 f1)(h2:EV C r env e2 f2){Q:V->V->MH->Prop}{K:au->au->ak->Prop}(hr:Room r A)(S:Sim C H ρ s)(F:Fm C env ρ s lo)(g:f1 lo H λa H1=>f2 lo H1 λb H2=>Q a b H2)(k:∀ {x y s2 ρ2 a b H2},Sim C H2 ρ2 s2->Nx ρ noW s ρ2 s2->VR ρ2 s2.heap x a->VR ρ2 s2.heap y b->Q a b H2->K x y s2):ar C.M A (iw e1 env) (λx s1=>ar C.M A (iw e2 env) (λy s2=>K x y s2) NoE s1) NoE s:=h1.run hr S F g λS1 N1 r1 g=>h2.run hr S1 (F.nx N1) g λS2 N2 r2 q=>k S2 (N1.trans N2) (r1.nx N2) r2 q
theorem EV.binOp(h1:EV C r env e1 f1)(h2:EV C r env e2 f2)(ho:OpR C r (qf op) g):EV C r env (.BinOp e1 op e2 pos) (aA g f1 f2):=λ_ _ _ _ _ _ hr S F q=>wpAny_BinOp (EV.two h1 h2 hr S F q λS2 N2 rx ry q=>wmN (ho hr S2 rx ry q) λ_ _ p=>p.from N2)
theorem EV.cmp1(h1:EV C r env e1 f1)(h2:EV C r env e2 f2)(ho:OpR C r (ji op) g)(hm:vp op e2=af):EV C r env (.Compare e1 [op] [e2] pos) (aA g f1 f2):=λ_ _ _ _ _ _ hr S F q=>wpAny_Compare1 (EV.two h1 h2 hr S F q λS2 N2 rx ry q=>wmN (ho hr S2 rx ry q) λ_ _ p=>p.from N2) hm
def Ti(v:V):ae Int:=match v with | .int x=>aa x |_=>none
theorem VR.tiE(r:VR ρ h u v)(e:Ti v=aa i):∃ t,u= .int i t:=by
 cases v with
 |int j=>exact cxS e r.inv
 |_=>first |exact aE e |cases e
theorem VR.ti{P:au->Prop}(r:VR ρ h u v)(e:Ti v=aa i)(k:∀ t,P (.int i t)):P u:=xE (r.tiE e) λt e=>e▸k t
def o2(p:Int->Int->dj)(f:Int->Int->V):OpF:=λa b H=>(Ti a).bind λx=>(Ti b).bind λy=>if p x y then aa (f x y,H) else none
theorem aGa{a b:V}{P:Prop}(e:o2 p f a b H=aa (v,H'))(k:∀ x y,Ti a=aa x->Ti b=aa y->p x y=ag->v=f x y->H'=H->P):P:=by
 refine xEA (aj.mp e) λx h1 e=>xEA (aj.mp e) λy h2 e=>?_
 split at e
 ·rename_i hp;refine cySP e λzq zr=>?_;subst zq zr;exact k x y h1 h2 hp rfl rfl
 ·exact aE e
def q8:OpF:=o2 (λ_ _=>ag) λx y=>.int (x+y)
def b5:OpF:=o2 (λ_ _=>ag) λx y=>.int (x-y)
def oMul:OpF:=o2 (λx _=>decide (-1000000000<x/\x<1000000000)) λx y=>.int (x*y)
def q7:OpF:=o2 (λ_ y=>decide (0<y/\y<1000000000)) λx y=>.int (x/y)
def c6:OpF:=o2 (λ_ y=>decide (0<y)) λx y=>.int (x%y)
theorem OpR.i2(h:∀ {A:ef}{s:ak}{ρ:ac Lc}{x y:Int}{t u:Tok}{Q:au->ak->Prop},Room r A->p x y=ag->(∀ z k,VR ρ s.heap z (f x y)->Q z {s with toks:=k})->ar C.M A (op (.int x t) (.int y u)) Q NoE s):OpR C r op (o2 p f):=
 by
  refine OpR.of ?_
  intro A s ρ H a b va vb v H' hr S ra rb e
  refine aGa e λx y h1 h2 hp hv hH=>?_
  subst hv hH
  exact VR.ti (P:=λa=>ar C.M A (op a b) _ _ _) ra h1 λt=>VR.ti (P:=λb=>ar C.M A (op _ b) _ _ _) rb h2 λu=>h hr hp λz k rz=>EPo.tok S rz
theorem OpR.sub:OpR C r (qf .Sub) b5:=OpR.i2 λ_ _ k=>sub_int (k _ _ (.int _ _))
theorem OpR.mul:OpR C r (qf .Mult) oMul:=OpR.i2 λ_ hp k=>by
 have hb:=cx hp
 exact mul_int (k _ _ (.int _ _)) (.of_left (intBits_le_64 (oe (Int.lt_trans (by decide) hb.1)) (Int.lt_trans hb.2 (by decide))))
theorem OpR.div:OpR C r (qf .FloorDiv) q7:=OpR.i2 λ_ hp k=>by
 have hb:=cx hp
 exact floordiv_int (Int.ne_of_gt hb.1) (k _ _ (rwL (Int.fdiv_eq_ediv_of_nonneg _ (oe hb.1)) (.int _ _))) (.inl (PyProof.noPylong_small (by omega)))
theorem OpR.mod:OpR C r (qf .Mod) c6:=OpR.i2 λ_ hp k=>by
 have hb:=cx hp
 exact mod_int' (Int.ne_of_gt hb) (k _ _ (rwL (Int.fmod_eq_emod_of_nonneg _ (oe hb)) (.int _ _)))
def zN(f:Int->Int->dj):OpF:=o2 (λ_ _=>ag) λx y=>.bool (f x y)
noncomputable abbrev oLt:OpF:=zN λx y=>decide (x<y)
noncomputable abbrev oLe:OpF:=zN λx y=>decide (x<=y)
noncomputable abbrev oGt:OpF:=zN λx y=>decide (x>y)
noncomputable abbrev oGe:OpF:=zN λx y=>decide (x>=y)
theorem OpR.lt:OpR C r (ji .Lt) oLt:=OpR.i2 λ_ _ k=>lt_int (k _ _ (.bool _))
theorem OpR.le:OpR C r (ji .LtE) oLe:=OpR.i2 λ_ _ k=>le_int (k _ _ (.bool _))
theorem OpR.gt:OpR C r (ji .Gt) oGt:=OpR.i2 λ_ _ k=>gt_int (k _ _ (.bool _))
theorem OpR.ge:OpR C r (ji .GtE) oGe:=OpR.i2 λ_ _ k=>ge_int (k _ _ (.bool _))
open PySem PySem.W PyProof.Rows PySem.Calls PyProof
def MO.vs:MO->ae (ac V) | .list vs=>aa vs | .ro vs=>aa vs |_=>none
def MO.own:MO->ae (ac V) | .list vs=>aa vs |_=>none
def V.rf:V->ae Nat | .ref i=>aa i |_=>Option.none
def lst(H:MH)(v:V):ae (ac V):=v.rf.bind λi=>H[i]?.bind MO.vs
theorem VR.toRef(r:VR ρ h u v)(e:v.rf=aa i):∃ l,v= .ref i/\u= .ref l.a/\ρ[i]? =aa l:=by
 cases v with
 |ref n=>exact cxS e (xEA r.inv λl h1 h2=>⟨l,rfl,h1,h2⟩)
 |_=>first |exact aE e |cases e
theorem lst_mo{i:Nat}(e:H[i]?.bind MO.vs=aa vs):H[i]? =aa (.list vs)\/H[i]? =aa (.ro vs):=by
 refine xEA (aj.mp e) λm h1 h2=>?_
 cases m with
 |list ws=>exact cxS h2 (.inl h1)
 |ro ws=>exact cxS h2 (.inr h1)
 |_=>cases h2
theorem k8{i:Nat}(e:H[i]?.bind MO.own=aa vs):H[i]? =aa (.list vs):=by
 refine xEA (aj.mp e) λm h1 h2=>?_
 cases m with
 |list ws=>exact cxS h2 h1
 |_=>cases h2
theorem cJ(S:Sim C H ρ s)(r:VR ρ s.heap u v)(e:lst H v=aa vs):∃ a xs,u= .ref a/\s.heap.IsList a xs/\VRs ρ s.heap xs.toList vs:=by
 refine xEA (aj.mp e) λi hi e=>cX (r.toRef hi) λl hv hu g=>Or.elim (lst_mo e) (λh=>(jU (S.objs i _ l h g) λ_ _ xs k hx rs=>⟨_,xs,hu,⟨_,hx,rfl,_,rfl⟩,rs⟩)) λh=>?_
 ·refine pS (S.objs i _ l h g) λ_ _ xs z13 rs=>xEA z13 λo hx q=>?_;exact⟨_,xs,hu,⟨o,S.keep _ _ hx,q⟩,rs⟩
structure mA(H:MH)(ρ:ac Lc)(s:ak)(i:Nat)(l:Lc)(vs:ac V)(xs:kq au)(n:Nat):Prop where
 g:ρ[i]? =aa l
 d:l.d=l.a
 gn:l.g=none
 h:H[i]? =aa (.list vs)
 x:IsL s.heap l.a xs n
 r:VRs ρ s.heap xs.toList vs
theorem k9(S:Sim C H ρ s)(g:ρ[i]? =aa l)(h:H[i]? =aa (.list vs)):∃ xs n,mA H ρ s i l vs xs n:=let ⟨h1,h2,xs,k,hx,rs⟩:=S.objs i _ l h g;⟨xs,k,g,h1,h2,h,hx,rs⟩
theorem VRs.sz{xs:kq au}(r:VRs ρ h xs.toList vs):xs.size=vs.length:=by exact rwR r.length Array.length_toList.symm
def aCx:V->ae kx | .none=>aa .none | .bool b=>aa (.bool b) | .int i=>aa (.int i) | .str s=>aa (.str s) |_=>none
def rd(H:MH):Nat->V->ae kx
 |0,v=>aCx v
 |n+1,.tup vs=>(vs.mapM (rd H n)).map .tuple
 |n+1,.ref i=>(lst H (.ref i)).bind λvs=>(vs.mapM (rd H n)).map .list
 |_+1,v=>aCx v
theorem fU(r:VR ρ h u v)(e:aCx v=aa d):∃ as,vq h u d as:=by
 cases v with
 |none=>refine cxS e ?_;cases(show u= .none from r.inv);exact⟨_,.none⟩
 |bool b=>refine cxS e ?_;cases(show u= .bool b from r.inv);exact⟨_,.bool b⟩
 |int i=>exact cxS e (xE r.inv λt z14=>rwL z14 ⟨_,.int i t⟩)
 |str x=>exact cxS e (xE r.inv λt z15=>rwL z15 ⟨_,.str x t⟩)
 |_=>first |exact aE e |cases e
theorem lP(ih:∀ {u:au}{v:V}{d:kx},VR ρ h u v->rd H n v=aa d->∃ as,vq h u d as)(r:VRs ρ h us vs):∀ {ds:ac kx},vs.mapM (rd H n)=aa ds->∃ as,ReadsAll h us ds as:=r.ind (P:=λus vs=>∀ {ds:ac kx},vs.mapM (rd H n)=aa ds->∃ as,ReadsAll h us ds as) (λe=>by exact cxS e ⟨_,.nil⟩) λa _ ih2 ds e=>by
  simp only[vg,wf,aj,pure_def,Option.some.injEq]at e
  refine aAm e λd h1 ds h2 z16=>?_;clear e;subst z16
  exact xE (ih a h1) λas r1=>xE (ih2 h2) λbs r2=>⟨_,.cons r1 r2⟩
theorem gX(S:Sim C H ρ s):∀ (n:Nat){u:au}{v:V}{d:kx},VR ρ s.heap u v->rd H n v=aa d->∃ as,vq s.heap u d as:=λn=>by
 induction n with
 |zero=>
  intro _ _ _ r e
  exact fU r e
 |succ n ih=>
  intro u v d r e
  cases r with
  |tup g rs=>
   refine xEA (df.mp e) λds hm z17=>rwR z17 ?_
   exact xE (lP (ih) rs hm) λas r2=>⟨_,.tuple g rfl rfl r2⟩
  |ref g=>
   refine xEA (aj.mp e) λvs hl e=>xEA (df.mp e) λds hm z18=>rwR z18 ?_
   refine bZ (cJ S (.ref g) hl) λa xs hu z19 rs=>?_;obtain⟨o,hx,hc,k,hd⟩:=z19
   refine xE (lP (ih) rs hm) λas r2=>?_
   cases hu
   exact⟨_,.list hx hc hd r2⟩
  |none=>exact fU (ρ:=ρ) .none e
  |bool b=>exact fU (ρ:=ρ) (.bool b) e
  |int i t=>exact fU (ρ:=ρ) (.int i t) e
  |str x t=>exact fU (ρ:=ρ) (.str x t) e
  |_=>first |exact aE e |cases e
def eqD:Nat:=8
def eqv(H:MH)(a b:V):ae dj:=(rd H eqD a).bind λda=>(rd H eqD b).bind λdb=>if PySem.SeqAt.shaped da && PySem.SeqAt.shaped db then aa (PyData.eqv da db) else none
def aS(f:dj->dj):OpF:=λa b H=>(eqv H a b).map λt=>(.bool (f t),H)
theorem Room.units(h:Room r A):A.units+64<cLine:=by exact(A1 h.2.2:A.units+64<9900)
theorem eqv_ok{a b:au}{P:Prop}(S:Sim C H ρ s)(ra:VR ρ s.heap a va)(rb:VR ρ s.heap b vb)(e:eqv H va vb=aa t)(k:∀ da db as bs,vq s.heap a da as->vq s.heap b db bs->PySem.SeqAt.shaped da=ag->PySem.SeqAt.shaped db=ag->t=PyData.eqv da db->P):P:=by
 refine xEA (aj.mp e) λda h1 e=>xEA (aj.mp e) λdb h2 e=>xE (gX S _ ra h1) λas r1=>xE (gX S _ rb h2) λbs r2=>?_
 split at e
 ·rename_i hs
  exact k da db as bs r1 r2 (bx.mp hs).1 (bx.mp hs).2 (Option.some.inj e).symm
 ·first |exact aE e |cases e
theorem OpR.eqB(h:∀ {A:ef}{s:ak}{a b:au}{da db:kx}{as bs:ac bz}{Q:au->ak->Prop},Room r A->vq s.heap a da as->vq s.heap b db bs->PySem.SeqAt.shaped da=ag->PySem.SeqAt.shaped db=ag-> Q (.bool (f (PyData.eqv da db))) s->ar C.M A (op a b) Q NoE s):OpR C r op (aS f):=by
 refine OpR.of ?_
 intro A s ρ H a b va vb v H' hr S ra rb e
 exact xEA (df.mp e) λt e1 e2=>eqv_ok S ra rb e1 λda db as bs r1 r2 s1 s2 ht=>h hr r1 r2 s1 s2 (by exact cxP e2 (rwR ht (.here S (.bool _))))
theorem OpR.eq:OpR C r (ji .Eq) (aS id):=OpR.eqB λhr r1 r2 s1 s2 q=>eq_dataH r1 r2 s1 s2 hr.units q
theorem OpR.ne:OpR C r (ji .NotEq) (aS not):=OpR.eqB λhr r1 r2 s1 s2 q=>ne_dataH r1 r2 s1 s2 hr.units q
def tr(v:V)(H:MH):ae dj:=match v with
 | .none=>aa af
 | .bool b=>aa b
 | .int i=>aa (i != 0)
 | .str x=>if x.length<1000000 then aa ((x.length:Int) != 0) else none
 | .ref i=>(lst H (.ref i)).bind λvs=>if vs.length<1000000 then aa (!vs.isEmpty) else none
 |_=>none
noncomputable abbrev TF:=Lo->MH->(dj->MH->Prop)->Prop
inductive l8(C:Cx)(ρ:ac Lc)(s:ak)(Q:dj->MH->Prop)(b:dj)(s':ak):Prop
 |mk {ρ':ac Lc}{H':MH} (S:Sim C H' ρ' s') (N:Nx ρ noW s ρ' s') (q:Q b H'):l8 C ρ s Q b s'
def TV(C:Cx)(r:Nat)(env:Env)(e:Expr)(f:TF):Prop:=∀ ⦃A:ef⦄⦃s:ak⦄⦃ρ:ac Lc⦄⦃H:MH⦄⦃lo:Lo⦄⦃Q:dj->MH->Prop⦄,Room r A->Sim C H ρ s->Fm C env ρ s lo->f lo H Q->
  ar C.M A (isTrue e env (iw e env)) (l8 C ρ s Q) NoE s
theorem TV.run(h:TV C r env e f){K:dj->ak->Prop}(hr:Room r A)(S:Sim C H ρ s)(F:Fm C env ρ s lo)(q:f lo H Q)(k:∀ {b s' ρ' H'},Sim C H' ρ' s'->Nx ρ noW s ρ' s'->Q b H'->K b s'):ar C.M A (isTrue e env (iw e env)) K E s:=wmN (h hr S F q) λ_ _ z=>z.casesOn λS N q=>k S N q
theorem l8.from{b:dj}(N:Nx ρ noW s ρ1 s1)(p:l8 C ρ1 s1 Q b s'):l8 C ρ s Q b s':=by cases p with |mk S N' q=>exact ⟨S,N.trans N',q⟩
theorem zA{b:dj}{K:dj->ak->Prop}(S:Sim C H ρ s)(rv:VR ρ s.heap u v)(e:tr v H=aa b)(k:∀ n,K b {s with toks:=n}):ar C.M A (truthy u) K E s:=by
 cases v with
 |none=>refine cyS e λzq=>?_;subst zq;cases(show u= .none from rv.inv);exact PyProof.Rows.truthy_none (k s.toks)
 |bool b'=>cases e;cases(show u= .bool b from rv.inv);exact wpAny_truthy_bool (k s.toks)
 |int i=>refine cyS e λzq=>?_;subst zq;exact xE rv.inv λt z20=>rwL z20 (truthy_int (k s.toks))
 |str x=>
  refine xE rv.inv λt z21=>?_;subst z21
  have e:(if x.length<1000000 then aa ((x.length:Int) != 0) else none)=aa b:=e
  by_cases hl:x.length<1000000
  ·rw[aw hl]at e
   have e:=Option.some.inj e
   subst e
   exact PySem.P.truthy_str (by omega) (k _)
  ·rw[aq hl]at e;cases e
 |ref g=>
  refine xEA (aj.mp e) λvs hl e=>bZ (cJ S rv hl) λa xs z22 h2 h3=>?_;subst z22
  by_cases hlen:vs.length<1000000
  ·rw[aw hlen]at e
   have hsz:=h3.sz
   refine wpAny_truthy_list h2 (by omega) ?_
   have hb:(! xs.isEmpty)=b:=by
    rw[<-Option.some.inj e]
    unfold Array.isEmpty
    refine rwL hsz ?_
    cases vs<;>rfl
   exact hb▸k _
  ·cases ((aq hlen)▸e)
 |_=>first |exact aE e |cases e
def tE(f:EF):TF:=λlo H Q=>f lo H λv H1=>Lf (tr v H1) λb=>Q b H1
theorem lM(S:Sim C H ρ1 s1)(N:Nx ρ noW s ρ1 s1)(rv:VR ρ1 s1.heap u v)(e:Lf (tr v H) λb=>Q b H):ar C.M A (truthy u) (l8 C ρ s Q) E s1:=e.elim λb e q=>zA S rv e λ_=>⟨S.toks _,N.trans (.toks _),q⟩
theorem TV.val(h:EV C r env e f)(he:isTrue e env (iw e env)=(do let v<-iw e env;xd e.pos;sj [v] (truthy v))):TV C r env e (tE f):=λ_ _ _ _ _ _ hr S F g=>wpAny_isTrue_value (h.run hr S F g λS1 N1 r1 q=>lM S1 N1 r1 q) he
def mD(f:TF):TF:=λlo H Q=>f lo H λb H'=>Q (!b) H'
theorem TV.not(h:TV C r env e f):TV C r env (.UnaryOp .Not e pos) (mD f):=λ_ _ _ _ _ _ hr S F g=>wpAny_isTrue_Not (h.run hr S F g λS N q=>⟨S,N,q⟩)
theorem TV.cmp1(h1:EV C r env e1 f1)(h2:EV C r env e2 f2)(ho:OpR C r (ji op) g)(hm:vp op e2=af):TV C r env (.Compare e1 [op] [e2] pos) (tE (aA g f1 f2)):=λ_ _ _ _ _ _ hr S F q=>wpAny_isTrue_Compare1 (EV.two h1 h2 hr S F q λS2 N2 rx ry q=>bR.run (ho hr S2 rx ry q) λS3 N3 r3 q=>lM S3 (N2.trans N3) r3 q) hm
def aX(f g:TF):TF:=λlo H Q=>f lo H λb H1=>bif b then g lo H1 Q else Q af H1
def tOr(f g:TF):TF:=λlo H Q=>f lo H λb H1=>bif b then Q ag H1 else g lo H1 Q
def tK(b:dj):TF:=λ_ H Q=>Q b H
def jJ(C:Cx)(r:Nat)(env:Env)(op:BoolOp)(es:ac Expr)(f:TF):Prop:=∀ ⦃A:ef⦄⦃s:ak⦄⦃ρ:ac Lc⦄⦃H:MH⦄⦃lo:Lo⦄⦃Q:dj->MH->Prop⦄,Room r A->Sim C H ρ s->Fm C env ρ s lo->f lo H Q->
  ar C.M A (allTrue op es env) (l8 C ρ s Q) NoE s
theorem jJ.and_nil:jJ C r env .And [] (tK ag):=λ_ _ _ _ _ _ _ S _ q=>wpAny_allTrue_And_nil ⟨S,.refl,q⟩
theorem jJ.or_nil:jJ C r env .Or [] (tK af):=λ_ _ _ _ _ _ _ S _ q=>wpAny_allTrue_Or_nil ⟨S,.refl,q⟩
theorem jJ.and_cons(h:TV C r env e f)(hs:jJ C r env .And es g):jJ C r env .And (e::es) (aX f g):=λ_ _ _ _ _ _ hr S F q=>wpAny_allTrue_And_cons (h.run hr S F q λ{b _ _ _} S1 N1 q=>match b,q with
  |true,q=>wmN (hs hr S1 (F.nx N1) q) λ_ _ p=>p.from N1
  |false,q=>⟨S1,N1,q⟩)
theorem jJ.or_cons(h:TV C r env e f)(hs:jJ C r env .Or es g):jJ C r env .Or (e::es) (tOr f g):=λ_ _ _ _ _ _ hr S F q=>wpAny_allTrue_Or_cons (h.run hr S F q λ{b _ _ _} S1 N1 q=>match b,q with
  |false,q=>wmN (hs hr S1 (F.nx N1) q) λ_ _ p=>p.from N1
  |true,q=>⟨S1,N1,q⟩)
theorem TV.boolOp(h:jJ C r env op es f):TV C r env (.BoolOp op es pos) f:=λ_ _ _ _ _ _ hr S F e=>wpAny_isTrue_BoolOp (h hr S F e)
def eIf(t:TF)(f g:EF):EF:=λlo H Q=>t lo H λb H1=>bif b then f lo H1 Q else g lo H1 Q
theorem EV.ifExp(ht:TV C r env t ft)(h1:EV C r env e1 f1)(h2:EV C r env e2 f2):EV C r env (.IfExp t e1 e2 pos) (eIf ft f1 f2):=λ_ _ _ _ _ _ hr S F q=>wpAny_IfExp (ht.run hr S F q λ{b _ _ _} S1 N1 q=>match b,q with
  |true,q=>wmN (h1 hr S1 (F.nx N1) q) λ_ _ p=>p.from N1
  |false,q=>wmN (h2 hr S1 (F.nx N1) q) λ_ _ p=>p.from N1)
def gQ(f:EF):EF:=λlo H Q=>f lo H λv H1=>Lf (Ti v) λi=>Q (.int (-i)) H1
theorem EV.neg(h:EV C r env e f):EV C r env (.UnaryOp .USub e pos) (gQ f):=λ_ _ _ _ _ _ hr S F q=>wpAny_UnaryOp (h.run hr S F q λ{x s' _ _ _} S1 N1 r1 q=>q.elim λi e q=>VR.ti (P:=λx=>ar C.M _ (unaryOp .USub x) _ _ s') r1 e λt=>neg_int ⟨S1.toks _,N1.trans (.toks _),.int _ _,q⟩)
noncomputable abbrev EFs:=Lo->MH->(ac V->MH->Prop)->Prop
def esN:EFs:=λ_ H Q=>Q [] H
def esC(f:EF)(g:EFs):EFs:=λlo H Q=>f lo H λv H1=>g lo H1 λvs H2=>Q (v::vs) H2
inductive wU(C:Cx)(ρ:ac Lc)(s:ak)(Q:ac V->MH->Prop)(xs:ac au)(s':ak):Prop
 |mk {ρ':ac Lc}{vs:ac V}{H':MH} (S:Sim C H' ρ' s') (N:Nx ρ noW s ρ' s') (r:VRs ρ' s'.heap xs vs) (q:Q vs H'):wU C ρ s Q xs s'
def EVs(C:Cx)(r:Nat)(env:Env)(es:ac Expr)(f:EFs):Prop:=∀ ⦃A:ef⦄⦃s:ak⦄⦃ρ:ac Lc⦄⦃H:MH⦄⦃lo:Lo⦄⦃Q:ac V->MH->Prop⦄⦃pos:Pos⦄,Room r A->Sim C H ρ s->Fm C env ρ s lo->f lo H Q->
  ar C.M A (spliced (ky pos (di es env))) (wU C ρ s Q) NoE s
theorem EVs.nil:EVs C r env [] esN:=λ_ _ _ _ _ _ _ _ S _ q=>ui ⟨S,.refl,.nil,q⟩
theorem EVs.cons(h:EV C r env e f)(hs:EVs C r env es g)(he:di (e::es) env=(af,iw e env)::di es env):EVs C r env (e::es) (esC f g):=λ_ _ _ _ _ _ _ hr S F q=>pi (h.run hr S F q λS1 N1 r1 q=>wmN (hs hr S1 (F.nx N1) q) λ_ _ z=>z.casesOn λS2 N2 r2 q=>⟨S2,N1.trans N2,.cons (r1.nx N2) r2,q⟩) he
def bD(g:EFs):EF:=λlo H Q=>g lo H λvs H1=>vs.length<100/\Q (.tup vs) H1
theorem EV.tuple(h:EVs C r env es g):EV C r env (.Tuple es k pos) (bD g):=λ_ _ _ _ _ _ hr S F q=>wpAny_Tuple (wmN (h hr S F q) λxs s1 ⟨S1,N1,r1,hl,q⟩=>⟨by exact rwL r1.length (rwL dh (A2 hl)),S1.push _,N1.trans (.push _),.tup (Heap.get?_push_size _ rfl) (by simpa using r1.mono (be _) (fR _ _)),q⟩)
def mkL(vs:ac V)(H:MH):ae (V×MH):=if vs.length<1000000 then aa (.ref H.length,H++[.list vs]) else none
theorem iW{P:Prop}(e:mkL vs H=aa p)(k:vs.length<1000000->p=(.ref H.length,H++[.list vs])->P):P:=by
 unfold mkL at e
 split at e
 ·rename_i h;exact k h (Option.some.inj e).symm
 ·first |exact aE e |cases e
def b9(g:EFs):EF:=λlo H Q=>g lo H λvs H1=>Lp (mkL vs H1) Q
theorem Sim.newList(S:Sim C H ρ s)(hr:VRs ρ s.heap xs.toList vs):EPo C ρ s (H++[.list vs]) (.ref H.length) (.ref s.heap.objs.size) {s with heap:=s.heap.push {cls:=.type "list",data:=.seq xs}}:=by
 refine⟨ρ++[⟨s.heap.objs.size,s.heap.objs.size,none⟩],S.alloc {cls:=.type "list",data:=.seq xs} (.list vs) ⟨rfl,rfl,xs,0,Heap.get?_push_size _ rfl,hr.mono (mi _ _) (fR _ _)⟩,.alloc _,?_⟩
 exact VR.ref (l:=⟨s.heap.objs.size,s.heap.objs.size,none⟩) (by rw[<-S.len];simp)
theorem EV.list(h:EVs C r env es g):EV C r env (.List es pos) (b9 g):=λ_ _ _ _ _ _ hr S F q=>wpAny_List (wmN (h hr S F q) λxs s1 z=>z.casesOn λS1 N1 r1 q=>q.elim λp e q=>iW e λhl e=>by
  subst e
  exact⟨by exact rwL r1.length (rwL dh (A3 hl)),((S1.newList (by simpa using r1)).from N1).post q⟩)
def aL:OpF:=λa b H=>match Ti a,Ti b with
 |some x,aa y=>aa (.int (x+y),H)
 |_,_=>(lst H a).bind λxs=>(lst H b).bind λys=>mkL (xs++ys) H
theorem OpR.add:OpR C r (qf .Add) aL:=by
 refine OpR.of ?_
 intro A s ρ H a b va vb v H' hr S ra rb e
 unfold aL at e
 split at e
 ·rename_i x y h1 h2
  exact cxSP e (VR.ti (P:=λa=>ar C.M A (qf .Add a b) _ _ _) ra h1 λt=>VR.ti (P:=λb=>ar C.M A (qf .Add _ b) _ _ _) rb h2 λu=>add_int (.tok S (.int _ _)))
 ·refine xEA (aj.mp e) λxs h1 e=>xEA (aj.mp e) λys h2 e=>iW e λhl e=>?_
  cases e
  refine bZ (cJ S ra h1) λi us z23 o1 r1=>?_;subst z23
  refine bZ (cJ S rb h2) λj us' z24 o2 r2=>?_;subst z24
  have e2:=r2.sz
  obtain⟨⟨cls,dd,data,sl⟩,ho,hc,n,hd⟩:=o1
  obtain⟨⟨cls2,dd2,data2,sl2⟩,ho2,hc2,n2,hd2⟩:=o2
  subst hc;subst hd;subst hc2;subst hd2
  exact concat_meets ⟨_,ho,rfl⟩ ⟨_,ho2,rfl⟩ noFill_list_add seq_list_add PySem.F.slot_list_add PySem.F.entry_list_add (PySem.F.args_list_add_2 _ _) (list_addW i j us us' n n2 dd dd2 sl sl2 (by exact rwL dh (A4 (rwR am hl) r1.sz e2))) ⟨ho,ho2,S.newList (by exact rwL Array.toList_append (r1.append r2))⟩
inductive Fl where
 |next |brk |cont |ret (v:V)
inductive FlR(ρ:ac Lc)(h:lu):xc->Fl->Prop
 |next:FlR ρ h .next .next
 |brk:FlR ρ h .brk .brk
 |cont:FlR ρ h .cont .cont
 |ret {u v} (r:VR ρ h u v):FlR ρ h (.ret u) (.ret v)
noncomputable abbrev SK:=Fl->Lo->MH->Prop
variable{K:SK}
noncomputable abbrev SF:=Lo->MH->SK->Prop
inductive l9(C:Cx)(env:Env)(ρ:ac Lc)(s:ak)(Q:SK)(f:xc)(s':ak):Prop
 |mk {ρ':ac Lc}{fl:Fl}{lo':Lo}{H':MH} (S:Sim C H' ρ' s') (N:Nx ρ (Wr env) s ρ' s') (F:Fm C env ρ' s' lo') (r:FlR ρ' s'.heap f fl) (q:Q fl lo' H'):l9 C env ρ s Q f s'
def SV(C:Cx)(r:Nat)(env:Env)(st:jb)(f:SF):Prop:=∀ ⦃A:ef⦄⦃s:ak⦄⦃ρ:ac Lc⦄⦃H:MH⦄⦃lo:Lo⦄⦃Q:SK⦄,Room r A->Sim C H ρ s->Fm C env ρ s lo->f lo H Q->
  ar C.M A (exec st env) (l9 C env ρ s Q) NoE s
def SVs(C:Cx)(r:Nat)(env:Env)(st:ac jb)(f:SF):Prop:=∀ ⦃A:ef⦄⦃s:ak⦄⦃ρ:ac Lc⦄⦃H:MH⦄⦃lo:Lo⦄⦃Q:SK⦄,Room r A->Sim C H ρ s->Fm C env ρ s lo->f lo H Q->
  ar C.M A (oq st env) (l9 C env ρ s Q) NoE s
theorem l9.from(N:Nx ρ (Wr env) s ρ1 s1)(p:l9 C env ρ1 s1 Q f s'):l9 C env ρ s Q f s':=by cases p with |mk S N' F r q=>exact ⟨S,N.trans N',F,r,q⟩
theorem Nx.wr(N:Nx ρ noW s ρ' s'):Nx ρ W s ρ' s':=N.weaken λ_ q=>q.elim
def upd(lo:Lo)(x:Str)(v:V):Lo:=λy=>if y=x then aa v else lo y
theorem dN{a:bz}(hs:Heap.SameBut a h h')(ho:h.get? a=aa o)(hi: ¬bB o):Imm h h':=λb x e i=>by
 by_cases q:b=a
 ·subst q;refine cyS (ho▸e) λzq=>?_;subst zq;exact ba i hi
 ·exact rwL (hs.2 b q) e
theorem Sim.side{a:bz}(S:Sim C H ρ s)(hs:Heap.SameBut a s.heap h')(ho:s.heap.get? a=aa o)(hi: ¬bB o)(hown: ¬Own ρ a)(hb:C.base.heap.get? a=none):Sim C H ρ {s with heap:=h',toks:=k}:=by
 refine S.same (λb x e q=>?_) (dN hs ho hi) (λ_ _ e=>e) rfl S.bare
 have:b≠a:=by
  rintro rfl
  refine Or.elim q (λq=>(hown q)) λq=>?_
  ·cases (hb▸q)
 exact(rwL (hs.2 b this) e:h'.get? b=aa x)
theorem Nx.side{a:bz}(hs:Heap.SameBut a s.heap h')(ho:s.heap.get? a=aa o)(hi: ¬bB o)(hw:W a)(ha:∃ o',h'.get? a=aa o'):Nx ρ W s ρ {s with heap:=h',toks:=k}:=⟨be _,λl hl=>by simp at hl,λb x e _ hb=>by
  have:b≠a:=by rintro rfl;exact hb hw
  exact(rwL (hs.2 b this) e:h'.get? b=aa x),dN hs ho hi,λb x e=>by
  by_cases q:b=a
  ·exact rwL q ha
  ·exact⟨x,by exact(rwL (hs.2 b q) e:h'.get? b=aa x)⟩⟩
inductive eL(C:Cx)(env:Env)(W:bz->Prop)(ρ:ac Lc)(s:ak)(Q:Lo->MH->Prop)(u:ur)(s':ak):Prop
 |mk {ρ':ac Lc}{lo':Lo}{H':MH} (S:Sim C H' ρ' s') (N:Nx ρ W s ρ' s') (F:Fm C env ρ' s' lo') (q:Q lo' H'):eL C env W ρ s Q u s'
theorem eL.from(N:Nx ρ W s ρ1 s1)(p:eL C env W ρ1 s1 Q x s'):eL C env W ρ s Q x s':=by cases p with |mk S N' F q=>exact ⟨S,N.trans N',F,q⟩
theorem eL.run{α:Type}{K:ur->ak->Prop}(h:ar M A t (eL C env W ρ s Q) NoE s)(k:∀ {x s' ρ' lo' H'},Sim C H' ρ' s'->Nx ρ W s ρ' s'->Fm C env ρ' s' lo'->Q lo' H'->K x s'):ar M A t K E s:=wmN h λ_ _ z=>z.casesOn λS N F q=>k S N F q
theorem gV{K:ur->ak->Prop}(S:Sim C H ρ s)(F:Fm C env ρ s lo)(rv:VR ρ s.heap u v)(hk:(env.kindOf x=aa .local/\W env.locals)\/(env.kindOf x=aa .cell/\∀ c,env.cells.lookup x=aa c->W c))(k:∀ s',Sim C H ρ s'->Nx ρ W s ρ s'->Fm C env ρ s' (upd lo x v)->K () s'):ar C.M A (storeName env x u) K E s:=by
 rcases hk with ⟨hk,hW⟩ |⟨hk,hW⟩
 ·refine xEA F.ns λm hns hm=>gD (id hns) λo es ep ho hd hr=>?_
  have hi: ¬bB o:=by delta bB;exact rwL hd id
  refine wpAny_storeName_local hk hns (λh' hn hs=>?_) (by rw[F.fn];rfl)
  have im:=dN hs ho hi
  refine k _ (S.side hs ho hi (F.own _ (.inl rfl)).1 (F.own _ (.inl rfl)).2) (.side hs ho hi hW (let ⟨o2,_,_,g,_⟩:=hn;⟨o2,g⟩)) ⟨F.fn,F.gl,F.bi,⟨_,hn,λy hy=>?_⟩,λy hy=>?_,F.own,F.dis,F.inj,λb hb=>?_⟩
  ·by_cases q:y=x
   ·simp only[upd,aw q];exact rv.mono (be _) im
   ·simp only[upd,aq q];exact(hm y hy).mono (be _) im
  ·refine cN (F.cl y hy) λc o' u' h1 h2 h3 h4=>?_
   have q:y≠x:=by rintro rfl;rw[hk]at hy;refine Or.elim hy (λhy=>?_) λhy=>?_<;>cases hy
   exact⟨c,o',u',h1,(hs.2 c (F.dis y c h1)).trans h2,h3,by rw[upd,aq q];exact h4.mono (be _) im⟩
  ·by_cases q:b=env.locals
   ·exact iI hn λo2 _ _ g _=>rwL q ⟨o2,g⟩
   ·exact xE (F.alv b hb) λo2 g=>⟨o2,(hs.2 b q).trans g⟩
 ·refine cN (F.cl x (.inl hk)) λc o u' h1 h2 h3 h4=>?_
  have hi: ¬bB o:=by delta bB;exact rwL h3 id
  refine wpAny_storeName_cell F.fn hk h1 ⟨o,h2,h3⟩ (λh' hc hs=>?_)
  have fw:=F.own c (.inr ⟨x,h1⟩)
  have im:=dN hs h2 hi
  refine k _ (S.side hs h2 hi fw.1 fw.2) (.side hs h2 hi (hW c h1) (xEA hc λo2 g _=>⟨o2,g⟩)) ⟨F.fn,F.gl,F.bi,?_,λy hy=>?_,F.own,F.dis,F.inj,λb hb=>?_⟩
  ·refine xEA F.ns λm hns hm=>⟨m,hns.sameBut hs (Ne.symm (F.dis x c h1)),λy hy=>?_⟩
   have q:y≠x:=by rintro rfl;cases (hk▸hy)
   rw[upd,aq q];exact(hm y hy).mono (be _) im
  ·by_cases q:y=x
   ·exact xEA hc λo2 g1 g2=>⟨c,o2,aa u,q▸h1,g1,g2,by rw[upd,aw q];exact rv.mono (be _) im⟩
   ·exact cN (F.cl y hy) λc' o' u'' g1 g2 g3 g4=>⟨c',o',u'',g1,(hs.2 c' (λz=>q (F.inj y x c' g1 (z▸h1)))).trans g2,g3,by rw[upd,aq q];exact g4.mono (be _) im⟩
  ·by_cases q:b=c
   ·exact xEA hc λo2 g _=>rwL q ⟨o2,g⟩
   ·exact xE (F.alv b hb) λo2 g=>⟨o2,(hs.2 b q).trans g⟩
theorem sY(hk:env.kindOf x=aa .local\/env.kindOf x=aa .cell):(env.kindOf x=aa .local/\Wr env env.locals)\/(env.kindOf x=aa .cell/\∀ c,env.cells.lookup x=aa c->Wr env c):=hk.imp (λh=>⟨h,.inl rfl⟩) λh=>⟨h,λ_ e=>.inr ⟨_,e⟩⟩
theorem aBa(S:Sim C H ρ s)(F:Fm C env ρ s lo)(rv:VR ρ s.heap u v)(hk:env.kindOf x=aa .local\/env.kindOf x=aa .cell)(q:Q (upd lo x v) H):ar C.M A (storeName env x u) (eL C env (Wr env) ρ s Q) NoE s:=gV S F rv (sY hk) λ_ S N F=>⟨S,N,F,q⟩
def sK(fl:Fl):SF:=λlo H Q=>Q fl lo H
theorem SV.pass{pos}:SV C r env (.Pass pos) (sK .next):=λ_ _ _ _ _ _ _ S F q=>wpAny_Pass ⟨S,.refl,F,.next,q⟩
theorem SV.brk{pos}:SV C r env (.Break pos) (sK .brk):=λ_ _ _ _ _ _ _ S F q=>wpAny_Break ⟨S,.refl,F,.brk,q⟩
theorem SV.cont{pos}:SV C r env (.Continue pos) (sK .cont):=λ_ _ _ _ _ _ _ S F q=>wpAny_Continue ⟨S,.refl,F,.cont,q⟩
def dX(f:EF):SF:=λlo H Q=>f lo H λv H1=>Q (.ret v) lo H1
theorem SV.ret{pos}(h:EV C r env e f):SV C r env (.Return (aa e) pos) (dX f):=λ_ _ _ _ _ _ hr S F q=>wpAny_Return_some (h.run hr S F q λS1 N1 r1 q=>⟨S1,N1.wr,F.nx N1,.ret r1,q⟩)
theorem SV.ret0{pos}:SV C r env (.Return none pos) (sK (.ret .none)):=λ_ _ _ _ _ _ _ S F q=>wpAny_Return_none ⟨S,.refl,F,.ret .none,q⟩
def bF(x:Str)(f:EF):SF:=λlo H Q=>f lo H λv H1=>Q .next (upd lo x v) H1
theorem SV.assign{pos}{pos'}(h:EV C r env e f)(hk:env.kindOf x=aa .local\/env.kindOf x=aa .cell)(hs:qs e (aa (.Name x pos')) pos.line env=pure af):SV C r env (.Assign [.Name x pos'] e pos) (bF x f):=λ_ _ _ _ _ _ hr S F q=>wpAny_Assign_Name (h.run hr S F q λS1 N1 r1 q=>gV S1 (F.nx N1) r1 (sY hk) λ_ S2 N2 F2=>⟨S2,N1.wr.trans N2,F2,.next,q⟩) hs
def sIf(t:TF)(f g:SF):SF:=λlo H Q=>t lo H λb H1=>bif b then f lo H1 Q else g lo H1 Q
theorem SV.ite{pos}(ht:TV C r env t ft)(h1:SVs C r env b1 f)(h2:SVs C r env b2 g):SV C r env (.If t b1 b2 pos) (sIf ft f g):=λ_ _ _ _ _ _ hr S F q=>wpAny_If (ht.run hr S F q λ{b _ _ _} S1 N1 q=>match b,q with
  |true,q=>wmN (h1 hr S1 (F.nx N1) q) λ_ _ p=>p.from N1.wr
  |false,q=>wmN (h2 hr S1 (F.nx N1) q) λ_ _ p=>p.from N1.wr)
def bN(g:SF)(Q:SK):SK:=λfl lo H=>match fl with | .next=>g lo H Q |fl=>Q fl lo H
def aB(f g:SF):SF:=λlo H Q=>f lo H (bN g Q)
theorem SVs.nil:SVs C r env [] (sK .next):=λ_ _ _ _ _ _ _ S F q=>uj ⟨S,.refl,F,.next,q⟩
theorem SVs.cons{st:jb}(h:SV C r env st f)(hs:SVs C r env rest g):SVs C r env (st::rest) (aB f g):=by
 intro A s ρ H lo Q hr S F q
 rw[execs_cons]
 refine zzB (wmN (h hr S F q) λfw s1 p=>?_)
 obtain⟨S1,N1,F1,r1,q⟩:=p
 cases r1 with
 |next=>exact wmN (hs hr S1 F1 q) λ_ _ p=>p.from N1
 |brk=>exact zzP ⟨S1,N1,F1,.brk,q⟩
 |cont=>exact zzP ⟨S1,N1,F1,.cont,q⟩
 |ret r1=>exact zzP ⟨S1,N1,F1,.ret r1,q⟩
theorem Sim.ext(S:Sim C H ρ s)(hk:∀ b o,s.heap.get? b=aa o->h'.get? b=aa o):Sim C H ρ {s with heap:=h',toks:=k}:=S.same (λb o e _=>hk b o e) (eF hk) (λ_ _ e=>e) rfl S.bare
theorem Nx.ext(hk:∀ b o,s.heap.get? b=aa o->h'.get? b=aa o):Nx ρ W s ρ {s with heap:=h',toks:=k}:=⟨be _,λl hl=>by simp at hl,λb o e _ _=>hk b o e,eF hk,λb o e=>⟨o,hk b o e⟩⟩
theorem wC(e:Heap.ExtBut h.objs.size h h'):∀ b o,h.get? b=aa o->h'.get? b=aa o:=λb o q=>e b o (qg (Heap.lt_size q)) q
def at_(k:Int)(vs:ac V):ae V:=if-1000000<k/\k<1000000 then(iu k vs.length).bind λj=>vs[j]? else none
def V.tp:V->ae (ac V) | .tup vs=>aa vs |_=>Option.none
def aO:OpF:=λa b H=>(Ti b).bind λk=>(match a.tp with |some vs=>at_ k vs |none=>(lst H a).bind (at_ k)).map λv=>(v,H)
theorem vK(h:iu k n=aa j):(0<=k/\j=k.toNat/\j<n)\/(k<0/\ -(n:Int)<=k/\j=(k+n).toNat/\j<n):=by
 unfold iu at h
 by_cases q:k<0
 ·simp only[q,vh]at h
  split at h
  ·rename_i g;refine cxS h ?_;simp at g;right;exact A5 g
  ·cases h
 ·simp only[q,jw]at h
  split at h
  ·rename_i g;refine cxS h ?_;simp at g;left;exact A6 g
  ·cases h
theorem y6{P:Prop}(e:at_ k vs=aa v)(h:∀ j,-1000000<k->k<1000000->iu k vs.length=aa j->vs[j]? =aa v->P):P:=by
 unfold at_ at e
 split at e
 ·rename_i hk
  exact xEA (aj.mp e) λj h1 h2=>h j hk.1 hk.2 h1 h2
 ·first |exact aE e |cases e
theorem VR.toTup(r:VR ρ h u v)(e:v.tp=aa vs):∃ a xs n,v= .tup vs/\u= .ref a/\h.get? a=aa {cls:=.type "tuple",data:=.seq xs n}/\VRs ρ h xs.toList vs:=by
 cases v with
 |tup ws=>exact cxS e (gD r.inv λa xs n h1 h2 h3=>⟨a,xs,n,rfl,h1,h2,h3⟩)
 |_=>first |exact aE e |cases e
theorem nM{a b:au}(S:Sim C H ρ s)(ra:VR ρ s.heap a va)(rb:VR ρ s.heap b vb)(e:aO va vb H=aa (v,H')):H'=H/\∃ x,VR ρ s.heap x v/\(∀ Q:au->ak->Prop,Q x s->ar C.M A (px a b) Q NoE s)/\∃ T id,s.TypeIs a T/\fq (.type T) "__getitem__" =pure (aa (.builtin id)):=by
 refine xEA (aj.mp e) λk hb e1=>xEA (df.mp e1) λw e3 e2=>?_
 clear e e1
 cases e2
 refine VR.ti (P:=λb=>H=H/\∃ x,VR ρ s.heap x v/\(∀ Q:au->ak->Prop,Q x s->ar C.M A (px a b) Q NoE s)/\∃ T id,s.TypeIs a T/\fq (.type T) "__getitem__" =pure (aa (.builtin id))) rb hb λt=>⟨rfl,?_⟩
 split at e3
 ·rename_i vs hvs
  refine cN (ra.toTup hvs) λad xs n _ z25 g rs=>?_;subst z25
  exact y6 e3 λj h1 h2 hj hv=>xEA (rs.get hv) λx hx rx=>⟨x,rx,λQ q=>(PyProof.Rows.getItem_tuple ⟨_,g,rfl,_,rfl⟩ (by omega) (by omega) (by exact rwL rs.sz hj) (by simpa using hx) q),"tuple",_,⟨_,g,rfl⟩,om.lookup⟩
 ·refine xEA (aj.mp e3) λvs hl e4=>bZ (cJ S ra hl) λad xs z26 h2 h3=>rwL z26 ?_
  refine y6 e4 λj k1 k2 hj hv=>xEA (h3.get hv) λx hx rx=>⟨x,rx,λQ q=>?_,"list",_,h2.typeIs,slot_list_getitem.lookup⟩
  rcases vK hj with ⟨h0,rfl,hlt⟩ |⟨h0,h1,rfl,hlt⟩
  ·exact wpAny_getItem_list h2 h0 (by omega) (by simpa using hx) q
  ·exact wpAny_getItem_list_neg h2 h0 (A7 h3.sz h1) (by omega) (by rw[h3.sz];simpa using hx) q
theorem EV.idx(h1:EV C r env e1 f1)(h2:EV C r env e2 f2)(hs:∀ o i,∃ ops,subscripted e2 af o i=operate ops (px o i)):EV C r env (.Subscript e1 e2 pos) (aA aO f1 f2):=λ_ _ _ _ _ _ hr S F q=>Subscript_ (EV.two h1 h2 hr S F q λ{x y s2 _ _ _ _} S2 N2 rx ry q=>q.elim λp e q=>by
  obtain⟨hH,z,rz,hz,T,id,hT,hl⟩:=nM S2 rx ry e
  exact xE (hs x y) λops ho=>tail_any hT hl (hz _ ⟨S2,N2,rz,hH▸q⟩) ho)
noncomputable abbrev AF:=V->Lo->MH->(Lo->MH->Prop)->Prop
def AVW(C:Cx)(W:Env->bz->Prop)(r:Nat)(env:Env)(t:Expr)(f:AF):Prop:=∀ ⦃A:ef⦄⦃s:ak⦄⦃ρ:ac Lc⦄⦃H:MH⦄⦃lo:Lo⦄⦃u:au⦄⦃v:V⦄⦃Q:Lo->MH->Prop⦄,Room r A->Sim C H ρ s->Fm C env ρ s lo->VR ρ s.heap u v->f v lo H Q->
  ar C.M A (vy t env u) (eL C env (W env) ρ s Q) NoE s
noncomputable abbrev AV(C:Cx)(r:Nat)(env:Env)(t:Expr)(f:AF):Prop:=AVW C Wr r env t f
def aN(x:Str):AF:=λv lo H Q=>Q (upd lo x v) H
theorem AV.name{pos}(hk:env.kindOf x=aa .local\/env.kindOf x=aa .cell):AV C r env (.Name x pos) (aN x):=λ_ _ _ _ _ _ _ _ _ S F rv q=>sp (aBa S F rv hk q)
noncomputable abbrev AFs:=ac V->Lo->MH->(Lo->MH->Prop)->Prop
def pB(C:Cx)(W:Env->bz->Prop)(r:Nat)(env:Env)(ts:ac Expr)(f:AFs):Prop:=∀ ⦃A:ef⦄⦃s:ak⦄⦃ρ:ac Lc⦄⦃H:MH⦄⦃lo:Lo⦄⦃us:ac au⦄⦃vs:ac V⦄⦃Q:Lo->MH->Prop⦄,Room r A->Sim C H ρ s->Fm C env ρ s lo->VRs ρ s.heap us vs->f vs lo H Q->
  ar C.M A (pz ((eh ts env).map (·.2)) us) (eL C env (W env) ρ s Q) NoE s
noncomputable abbrev AVs(C:Cx)(r:Nat)(env:Env)(ts:ac Expr)(f:AFs):Prop:=pB C Wr r env ts f
def asN:AFs:=λvs lo H Q=>match vs with | []=>Q lo H |_=>fe
def asC(f:AF)(g:AFs):AFs:=λvs lo H Q=>match vs with
 |v::vs=>f v lo H λlo1 H1=>g vs lo1 H1 Q
 | []=>fe
theorem pB.nil:pB C W r env [] asN:=by
 intro A s ρ H lo us vs Q hr S F rv e
 cases rv with
 |nil=>exact zzP ⟨S,.refl,F,e⟩
 |cons _ _=>exact e.elim
theorem pB.cons(h:AVW C W r env t f)(hs:pB C W r env ts g)(he:eh (t::ts) env=(af,vy t env)::eh ts env):pB C W r env (t::ts) (asC f g):=by
 intro A s ρ H lo us vs Q hr S F rv e
 cases rv with
 |nil=>exact e.elim
 |cons a b=>
  rename_i u us v vs
  exact rwL he (zzB (ax (eL.run (α:=ur) (h hr S F a e) λS1 N1 F1 q=>wmN (hs hr S1 F1 (b.nx N1) q) λ_ _ p=>p.from N1)))
theorem qH(hne:t≠it):∀ (n i:Nat) (s:ak) (Q:ac au->ak->Prop),s.heap.IsListIter it t i->s.heap.IsList t items->i+n<=items.size-> (∀ h',h'.IsListIter it t (i+n)->Heap.SameBut it s.heap h'->Q ((items.toList.drop i).take n) {s with heap:=h'})->ar (gz prog w) A (draw (.ref it) n) Q E s:=λl=>by
 induction l with
 |zero=>
  exact λi s Q hit _ _ hQ=>(zzP (by simpa using hQ s.heap hit (Heap.SameBut.refl ..)):ar _ _ (pure []) Q E s)
 |succ n ih=>
  intro i s Q hit ht hle hQ
  have hlt:i<items.size:=by omega
  refine zzB (oy hit ht (x:=items[i]) (by simp [hlt]) λh₁ hit₁ hs₁=>(zzB (ax (ih (i+1) _ _ hit₁ (ht.extBut hs₁.extBut hne) (by omega) λh₂ hit₂ hs₂=>zzP ?_))))
  have:=hQ h₂ (by exact rwL (show i+(n+1)=i+1+n by omega) hit₂) (hs₁.trans hs₂)
  rw[(by simp [List.drop_eq_getElem_cons,hlt]:items.toList.drop i=items[i]::items.toList.drop (i+1)),List.take_succ_cons]at this
  exact this
theorem kR(hh:A.handled=none)(ht:s.heap.IsList t items)(hQ:∀ h',Heap.ExtBut s.heap.objs.size s.heap h'->Q items.toList {s with heap:=h'}):ar (gz prog w) A (ww (.ref t) items.size none) Q E s:=by
 have hlt:t≠s.heap.objs.size:=by refine xEA ht λo ho _=>?_;exact qg (Heap.lt_size ho)
 delta ww
 refine zzB ?_
 delta notIterableAtAll
 refine zzB (ma ht.typeIs slot_list_iter.lookup (zzP (zzB (ax (oz ht (zzB (ax (qH hlt items.size 0 _ _ ⟨_,Heap.get?_push_size _ rfl,rfl,rfl⟩ (ht.push _) (by omega) λh₁ hit₁ hs₁=>?_))))))))
 have hall:List.take items.size (List.drop 0 items.toList)=items.toList:=by
  exact rwL List.drop_zero (List.take_of_length_le (by simp))
 refine rwL hall (rwL (aq (by simp)) (zzB (ax (uo hh hit₁ ((ht.push _).extBut hs₁.extBut hlt) (by simp) λh₂ he₂=>(zzP (hQ h₂ λb o hb e=>he₂ b o hb (hs₁.extBut b o hb (Heap.get?_push_of_some _ e))))))))
theorem u9{x1}(hh:A.handled=none)(ht:s.heap.IsList t items)(hn:(eh elts env).length=items.size)(hstar:(eh elts env).findIdx? (·.1)=none)(h:∀ h',Heap.ExtBut s.heap.objs.size s.heap h'->ar (gz prog w) A (pz ((eh elts env).map (·.2)) items.toList) Q E {s with heap:=h'}):
  ar (gz prog w) A (vy (.Tuple elts x1 pos) env (.ref t)) Q E s:=by
 rw[PyProof.Rows.assign_Tuple]
 refine zzB (dw ?_)
 delta unpack
 exact rwL hn (rwL hstar (zzB (ax (kR hh ht h))))
def V.sq(H:MH):V->ae (ac V) | .tup vs=>aa vs | .ref i=>lst H (.ref i) |_=>Option.none
def wQ(n:Nat)(g:AFs):AF:=λv lo H Q=>Lf (v.sq H) λvs=>vs.length=n/\g vs lo H Q
theorem AVW.tuple{pos}(h:pB C W r env ts g)(hn:(eh ts env).length=n)(hstar:(eh ts env).findIdx? (·.1)=none):AVW C W r env (.Tuple ts k pos) (wQ n g):=λA s ρ H lo u v Q hr S F rv e=>e.elim λvs hv e2=>by
  cases v with
  |tup ws=>
   refine cyS hv λzq=>?_;subst zq
   refine cN (rv.toTup rfl) λa xs nn _ z27 gt rs=>rwL z27 ?_
   refine assign_Tuple_tuple hr.1 ⟨_,gt,rfl,_,rfl⟩ (by exact rwL hn (rwL rs.sz e2.1.symm)) hstar λh' he=>?_
   have hk:=wC he
   exact wmN (h hr (S.ext hk) (F.nx (.ext hk)) (rs.mono (be _) (eF hk)) e2.2) λ_ _ p=>p.from (.ext hk)
  |ref i=>
   refine bZ (cJ S rv hv) λa xs z27 gt rs=>?_;subst z27
   refine u9 hr.1 gt (by exact rwL hn (rwL rs.sz e2.1.symm)) hstar λh' he=>?_
   have hk:=wC he
   exact wmN (h hr (S.ext hk) (F.nx (.ext hk)) (rs.mono (be _) (eF hk)) e2.2) λ_ _ p=>p.from (.ext hk)
  |_=>first |exact aE hv |cases hv
structure NxI(ρ:ac Lc)(X:bz->Prop)(s:ak)(ρ':ac Lc)(s':ak):Prop where
 pre:ρ<+:ρ'
 new:∀ l∈ρ'.drop ρ.length,s.heap.get? l.a=none/\s.heap.get? l.d=none
 kp:∀ b o,s.heap.get? b=aa o->¬Own ρ b->¬X b->s'.heap.get? b=aa o
 imm:Imm s.heap s'.heap
 al:∀ b o,s.heap.get? b=aa o->¬X b->∃ o',s'.heap.get? b=aa o'
noncomputable abbrev NK(σ:Type):=ae (V×σ)->MH->Prop
inductive oZ(C:Cx){σ:Type}(mid:ac Lc->ak->σ->au->au->(bz->Prop)->Prop)(ρ:ac Lc)(s:ak)(X:bz->Prop)(x:au)(Q:NK σ):ae au->ak->Prop
 |done {s' ρ' H'} (S:Sim C H' ρ' s') (I:NxI ρ X s ρ' s') (q:Q none H'):oZ C mid ρ s X x Q none s'
 |item {s' ρ' H' v it' u} (S:Sim C H' ρ' s') (I:NxI ρ X s ρ' s') (r:VR ρ' s'.heap u v) (m:mid ρ' s' it' u x X) (q:Q (aa (v,it')) H'):oZ C mid ρ s X x Q (aa u) s'
structure ItK(C:Cx) where
 σ:Type
 nx:σ->MH->NK σ->Prop
 rel:ac Lc->ak->σ->au->(bz->Prop)->Prop
 mid:ac Lc->ak->σ->au->au->(bz->Prop)->Prop
 tg:Expr->Prop
 need:Nat
 mono:∀ {ρ ρ' s s' it x X},rel ρ s it x X->ρ<+:ρ'->Imm s.heap s'.heap->(∀ b o,X b->s.heap.get? b=aa o->s'.heap.get? b=aa o)->rel ρ' s' it x X
 alive:∀ {ρ s it x X},rel ρ s it x X->∀ b,X b->∃ o,s.heap.get? b=aa o
 next:∀ {A:ef}{s ρ H it x X}{Q:NK σ}{r:Nat},need<=r->Room r A->Sim C H ρ s->rel ρ s it x X->(∀ b,X b->¬Own ρ b/\C.base.heap.get? b=none)->nx it H Q->
  ar C.M A (mx x) (oZ C mid ρ s X x Q) NoE s
 lgo:∀ {A:ef}{s ρ H it x X u}{target:Expr}{r:Nat},Room r A->Sim C H ρ s->mid ρ s it u x X->tg target->(∀ b,X b->¬Own ρ b/\C.base.heap.get? b=none)->
  ar C.M A (uk target x u) (λ_ s'=>Sim C H ρ s'/\NxI ρ X s ρ s'/\rel ρ s' it x X) NoE s
noncomputable abbrev IF(K:ItK C):=Lo->MH->(K.σ->MH->Prop)->Prop
inductive wT(K:ItK C)(ρ:ac Lc)(s:ak)(Q:K.σ->MH->Prop)(y:au)(s2:ak):Prop
 |mk {ρ':ac Lc}{X:bz->Prop}{it:K.σ}{H':MH} (S:Sim C H' ρ' s2) (N:Nx ρ noW s ρ' s2) (R:K.rel ρ' s2 it y X) (hX:∀ b,X b->s.heap.get? b=none/\¬Own ρ' b/\C.base.heap.get? b=none) (q:Q it H'):wT K ρ s Q y s2
def IV(K:ItK C)(r:Nat)(env:Env)(e:Expr)(f:IF K):Prop:=∀ ⦃A:ef⦄⦃s:ak⦄⦃ρ:ac Lc⦄⦃H:MH⦄⦃lo:Lo⦄⦃Q:K.σ->MH->Prop⦄,Room r A->Sim C H ρ s->Fm C env ρ s lo->f lo H Q->
  ar C.M A (iw e env) (λx s1=>ar C.M A (ut x) (wT K ρ s Q) NoE s1) NoE s
theorem eU(S:Sim C H ρ s){b:bz}(h:s.heap.get? b=none): ¬Own ρ b:=qC (l:=⟨b,b,none⟩) S h h (.inl rfl)
theorem d3(S:Sim C H ρ s){b:bz}(h:s.heap.get? b=none):C.base.heap.get? b=none:=j6 S h
theorem Sim.iterStep{a:bz}(S:Sim C H ρ s)(hk:∀ b o,b≠a->s.heap.get? b=aa o->h'.get? b=aa o)(hi:∀ o,s.heap.get? a=aa o->¬bB o)(ho: ¬Own ρ a)(hb:C.base.heap.get? a=none):Sim C H ρ {s with heap:=h'}/\NxI ρ (λb=>b=a) s ρ {s with heap:=h'}:=by
 have im:Imm s.heap h':=λb o e i=>by
  by_cases q:b=a
  ·subst q;exact ba i (hi o e)
  ·exact hk b o q e
 refine⟨S.same (λb o e q=>hk b o ?_ e) im (λ_ _ e=>e) rfl S.bare,⟨be _,λl hl=>by simp at hl,λb o e _ q=>hk b o q e,im,λb o e q=>⟨o,hk b o q e⟩⟩⟩
 rintro rfl
 refine Or.elim q (λq=>(ho q)) λq=>?_
 ·cases (hb▸q)
theorem NxI.refl:NxI ρ X s ρ s:=⟨be _,λl hl=>by simp at hl,λ_ _ e _ _=>e,.refl _,λ_ o e _=>⟨o,e⟩⟩
def nA:ac pj:=["enumerate","zip","dict_itemiterator","dict_reverseitemiterator","odict_iterator","itertools.zip_longest","itertools.pairwise"]
theorem jD{a:bz}(ho:s.heap.get? a=aa o)(hc:o.cls= .type T)(hT:nA.contains T=af)(h:Q () s):ar M A (uk target (.ref a) u) Q E s:=by
 have key:ar M A (do
   let (.ref r,.ref b):=(Value.ref a,u) |return
   let o<-load r
   match o.cls,o.data with
   | .type n,.fields vs=>
    if ["enumerate","zip","dict_itemiterator","dict_reverseitemiterator","odict_iterator","itertools.zip_longest","itertools.pairwise"].contains n && vs[0]? ==aa (rawInt b) then
     rule "for.unpacks-the-owned-tuple"
     updateField r 0 .none
   |_,_=>pure ():Sem ur) Q E s:=by
  cases u with
  |ref b=>
   refine zzB (wpAny_load ho (rwL hc ?_))
   cases o.data<;>first |exact zzP h | (dsimp only;exact rwL hT (zzP h))
  |_=>exact zzP h
 cases target<;>first |exact zzP h |exact key
theorem c7(N1:Nx ρ noW s ρ1 s1)(S1:Sim C H1 ρ1 s1){b:bz}(hb:s1.heap.get? b=none):s.heap.get? b=none/\¬Own ρ1 b/\C.base.heap.get? b=none:=by
 refine⟨?_,eU S1 hb,d3 S1 hb⟩
 cases e':s.heap.get? b with
 |none=>rfl
 |some o=>refine xE (N1.al _ _ e') λo' e''=>?_;cases (hb▸e'')
structure ItP(C:Cx)(σ:Type) where
 nx:σ->MH->ae (ae (V×σ))
 rel:ac Lc->ak->σ->bz->Prop
 T:pj
 own:nA.contains T=af
 mono:∀ {ρ ρ' s s' it a},rel ρ s it a->ρ<+:ρ'->Imm s.heap s'.heap->(∀ o,s.heap.get? a=aa o->s'.heap.get? a=aa o)->rel ρ' s' it a
 obj:∀ {ρ s it a},rel ρ s it a->∃ o,s.heap.get? a=aa o/\o.cls= .type T/\¬bB o
 item:∀ {A:ef}{s ρ H it a v it'}{Q:ae au->ak->Prop},A.handled=none->Sim C H ρ s->rel ρ s it a->nx it H=aa (aa (v,it'))->
  (∀ u h' k,Heap.SameBut a s.heap h'->VR ρ s.heap u v->(∀ s':ak,s'.heap=h'->Imm s.heap h'->rel ρ s' it' a)->Q (aa u) {s with heap:=h',toks:=k})->ar C.M A (mx (.ref a)) Q NoE s
 fin:∀ {A:ef}{s ρ H it a}{Q:ae au->ak->Prop},A.handled=none->Sim C H ρ s->rel ρ s it a->nx it H=aa none->
  (∀ h',Heap.ExtBut a s.heap h'->Q none {s with heap:=h'})->ar C.M A (mx (.ref a)) Q NoE s
theorem Sim.iterK{a:bz}(S:Sim C H ρ s)(hk:∀ b o,b≠a->s.heap.get? b=aa o->h'.get? b=aa o)(hi:∀ o,s.heap.get? a=aa o->¬bB o)(ho: ¬Own ρ a)(hb:C.base.heap.get? a=none):Sim C H ρ {s with heap:=h',toks:=k}/\NxI ρ (λb=>b=a) s ρ {s with heap:=h',toks:=k}:=xA (S.iterStep hk hi ho hb) λS' I=>⟨S'.toks k,⟨I.pre,I.new,I.kp,I.imm,I.al⟩⟩
def ItP.it(P:ItP C σ):ItK C where
 σ:=σ
 nx:=λit H Q=>Lf (P.nx it H) λy=>Q y H
 rel:=λρ s it x X=>∃ a,x= .ref a/\X=(λb=>b=a)/\P.rel ρ s it a
 mid:=λρ s it u x X=>∃ a,x= .ref a/\X=(λb=>b=a)/\P.rel ρ s it a
 tg:=λ_=>vx
 need:=0
 mono:=λh e i hk=>cX h λa hx hX h=>⟨a,hx,hX,P.mono h e i λo q=>hk a o (hX▸rfl) q⟩
 alive:=λz b hb=>cX z λa _ hX h=>by clear z;subst hX;subst hb;refine xEA (P.obj h) λo ho _=>?_;exact⟨o,ho⟩
 next:=by
  rintro A s ρ H it x X Q r _ hr S ⟨a,rfl,rfl,h⟩ hX e
  refine cX (P.obj h) λo ho hc hi=>?_
  have hi':∀ o,s.heap.get? a=aa o->¬bB o:=λo' e'=>by rw[ho]at e';cases e';exact hi
  have hXa:=hX a rfl
  refine e.elim λy ey q=>?_
  cases y with
  |some p=>
   refine P.item hr.1 S h ey λu h' k hs ru hrel=>?_
   refine xA (S.iterK (h':=h') (k:=k) (λb o hb e=>by rw[hs.2 b hb];exact e) hi' hXa.1 hXa.2) λS' I=>?_
   exact .item S' I (ru.mono (be _) I.imm) ⟨a,rfl,rfl,hrel _ rfl I.imm⟩ q
  |none=>
   refine P.fin hr.1 S h ey λh' he=>?_
   refine xA (S.iterK (h':=h') (k:=s.toks) (λb o hb e=>he b o hb e) hi' hXa.1 hXa.2) λS' I=>?_
   exact .done S' I q
 lgo:=by
  rintro A s ρ H it x X u target r hr S ⟨a,rfl,rfl,h⟩ _ hX
  refine cX (P.obj h) λo ho hc hi=>?_
  exact jD ho hc P.own ⟨S,.refl,a,rfl,rfl,h⟩
def pList(C:Cx):ItP C (Nat×Nat) where
 nx:=λit H=>(lst H (.ref it.1)).map λvs=>(vs[it.2]?).map λv=>(v,(it.1,it.2+1))
 rel:=λρ s it a=>∃ l,ρ[it.1]? =aa l/\s.heap.IsListIter a l.a it.2
 T:="list_iterator"
 own:=by decide
 mono:=λh e i hk=>xEA h λl h1 h=>xEA h λo h2 h3=>⟨l,aQ e h1,o,hk o h2,h3⟩
 obj:=λh=>xEA h λl h1 h=>cX h λo h2 h3 h4=>⟨o,h2,h3,by unfold bB;rw[h4];simp [h3]⟩
 item:=λhh S R e k=>by
  refine xEA R λl h1 hit=>?_
  refine xEA (df.mp e) λvs hl e=>?_
  refine xEA (df.mp e) λv hv e=>?_
  cases e
  refine bZ (cJ S (.ref h1) hl) λad xs q1 q2 q3=>?_
  cases q1
  refine xEA (q3.get hv) λu hu ru=>?_
  exact oy hit q2 (by simpa using hu) λh' hit2 hs=>k u h' _ hs ru λs' hs' _=>⟨l,h1,hs'▸hit2⟩
 fin:=λhh S R e k=>by
  refine xEA R λl h1 hit=>?_
  refine xEA (df.mp e) λvs hl e=>?_
  refine bZ (cJ S (.ref h1) hl) λad xs q1 q2 q3=>?_
  cases q1
  exact uo hh hit q2 (Array.getElem?_eq_none (by rw[q3.sz];exact getElem?_eq_none_iff.mp (Option.map_eq_none_iff.mp e))) λh' he=>k h' he
noncomputable abbrev cC(C:Cx):ItK C:=(pList C).it
def iL(f:EF):Lo->MH->(Nat×Nat->MH->Prop)->Prop:=λlo H Q=>f lo H λv H1=>Lf v.rf λi=>(∃ vs,lst H1 (.ref i)=aa vs)/\Q (i,0) H1
theorem IV.list(h:EV C r env e f):IV (cC C) r env e (iL f):=λ_ _ _ _ _ _ hr S F q=>h.run hr S F q λS1 N1 r1 q=>q.elim λi hi q=>by
  refine cX (r1.toRef hi) λl z28 z29 g=>?_;subst z28;subst z29
  refine xA q λz30 q=>?_;obtain⟨vs,hl⟩:=z30
  refine bZ (cJ S1 r1 hl) λad xs e q2 q3=>?_
  cases e
  exact oz q2 ⟨S1.push _,N1.trans (.push _),⟨_,rfl,rfl,l,g,_,Heap.get?_push_size _ rfl,rfl,rfl⟩,λb hb=>by exact rwL (show b=_ from hb) (c7 N1 S1 (bG _)),q⟩
def t7(again:Lo->MH->SK->Prop)(Q:SK):SK:=λfl lo H=>match fl with | .next=>again lo H Q | .cont=>again lo H Q | .brk=>Q .next lo H | .ret v=>Q (.ret v) lo H
def cZ(K:ItK C)(tgt:AF)(body:SF):Nat->K.σ->Lo->MH->SK->Prop
 |0,_,_,_,_=>fe
 |n+1,it,lo,H,Q=>K.nx it H λres H1=>match res with
  |none=>Q .next lo H1
  |some p=>tgt p.1 lo H1 λlo1 H2=>body lo1 H2 (t7 (cZ K tgt body n p.2) Q)
def y8(C:Cx)(env:Env)(ρ0:ac Lc)(s0:ak)(Q:SK):qk->ak->Prop
 | .ok f,s'=>l9 C env ρ0 s0 Q f s'
 | .error _,_=>fe
theorem Nx.stepI(N:Nx ρ0 W s0 ρ s)(I:NxI ρ X s ρ' s')(hX:∀ b,X b->s0.heap.get? b=none):Nx ρ0 W s0 ρ' s':=by
 have nX:∀ {b:bz}{o:Obj},s0.heap.get? b=aa o->¬X b:=λe q=>by rw[hX _ q]at e;cases e
 refine⟨N.pre.trans I.pre,λl hl=>(xE N.pre λt z31=>?_),λb o e ho hw=>I.kp b o (N.kp b o e ho hw) (N.own e ho) (nX e),N.imm.trans I.imm,λb o e=>xE (N.al b o e) λo' e'=>I.al b o' e' (nX e)⟩;subst z31
 refine xE I.pre λt' z32=>?_;subst z32
 rw[dz,tm]at hl
 refine Or.elim (ij.mp hl) (λq=>(N.new l (by simpa using q))) λq=>?_
 ·have n:=I.new l (by simpa using q)
  refine⟨?_,?_⟩
  ·cases e:s0.heap.get? l.a with
   |none=>rfl
   |some o=>refine xE (N.al _ _ e) λo' e'=>?_;rw[n.1]at e';cases e'
  ·cases e:s0.heap.get? l.d with
   |none=>rfl
   |some o=>refine xE (N.al _ _ e) λo' e'=>?_;rw[n.2]at e';cases e'
theorem Fm.nextI(F:Fm C env ρ s lo)(N:NxI ρ X s ρ' s')(hw:∀ b,Wr env b->¬X b):Fm C env ρ' s' lo:=by
 refine xEA F.ns λm z33 hm=>?_;obtain⟨o,es,ep,ho,hr⟩:=z33
 have k:=λb o hb e=>N.kp b o e (F.own b hb).1 (hw b hb)
 have own:∀ {b:bz}{o:Obj},s.heap.get? b=aa o->¬Own ρ b->¬Own ρ' b:=by
  rintro b o hb h ⟨l,hl,hh⟩
  refine xE N.pre λt z34=>?_;subst z34
  refine Or.elim (ij.mp hl) (λq=>(h ⟨l,q,hh⟩)) λq=>?_
  ·have:=N.new l (by simpa using q)
   rcases hh with rfl |rfl
   ·rw[this.1]at hb;cases hb
   ·rw[this.2]at hb;cases hb
 exact⟨F.fn,F.gl,F.bi,⟨m,⟨o,es,ep,k _ _ (.inl rfl) ho,hr⟩,λx hx=>(hm x hx).mono N.pre N.imm⟩,λx hx=>(cN (F.cl x hx) λc o u h1 h2 h3 h4=>⟨c,o,u,h1,k _ _ (.inr ⟨x,h1⟩) h2,h3,h4.mono N.pre N.imm⟩),λb hb=>⟨(xE (F.alv b hb) λo e=>own e (F.own b hb).1),(F.own b hb).2⟩,F.dis,F.inj,λb hb=>xE (F.alv b hb) λo e=>⟨o,k b o hb e⟩⟩
theorem NxI.owns(I:NxI ρ X s ρ' s'){b:bz}(e':s.heap.get? b=aa o)(h: ¬Own ρ b): ¬Own ρ' b:=by
 rintro ⟨l,hl,hh⟩
 refine xE I.pre λt z35=>?_;subst z35
 refine Or.elim (ij.mp hl) (λz=>(h ⟨l,z,hh⟩)) λz=>?_
 ·have:=I.new l (by simpa using z)
  rcases hh with rfl |rfl
  ·rw[this.1]at e';cases e'
  ·rw[this.2]at e';cases e'
def Apart(C:Cx)(env:Env)(ρ:ac Lc)(s0:ak)(X:bz->Prop):Prop:=∀ b,X b->s0.heap.get? b=none/\¬Own ρ b/\C.base.heap.get? b=none/\¬Wr env b
theorem Apart.two(h:Apart C env ρ s0 X):∀ b,X b->¬Own ρ b/\C.base.heap.get? b=none:=λb q=>⟨(h b q).2.1,(h b q).2.2.1⟩
theorem uM{K:ItK C}(ht:AV C r env target tgt)(hb:SVs C r env body bf)(htg:K.tg target/\K.need<=r):∀ (n:Nat){A:ef}{s0 s:ak}{ρ0 ρ:ac Lc}{H:MH}{lo:Lo}{it:K.σ}{x:au}{X:bz->Prop}{Q:SK},Room r A->Nx ρ0 (Wr env) s0 ρ s->Sim C H ρ s->Fm C env ρ s lo-> K.rel ρ s it x X->Apart C env ρ s0 X->cZ K tgt bf n it lo H Q->kr C.M A (.forLoop target x body [] env) (y8 C env ρ0 s0 Q) s:=λl=>by
 induction l with
 |zero=>
  intro _ _ _ _ _ _ _ _ _ _ _ _ _ _ _ _ _ e
  exact e.elim
 |succ n ih=>
  intro A s0 s ρ0 ρ H lo it x X Q hr N S F R hX e
  refine mc (rwL (Around.under_of_weight rfl rfl) (og (dv (E:=NoE) ?_ (λ_ _ z=>z) (λ_ _ z=>z.elim))))
  delta forTurn
  refine zzB (dw (zzB (og (wmN (K.next htg.2 hr S R hX.two e) λo s1 p=>?_))))
  cases p with
  |done S1 I1 q=>
   exact zzP ⟨rfl,mc (rwL (Around.under_of_weight rfl rfl) (zzB (og (uj (zzP ⟨S1,N.stepI I1 (λb q=>(hX b q).1),F.nextI I1 (λb hw q=>(hX b q).2.2.2 hw),.next,q⟩)))))⟩
  |item S1 I1 ru R1 q=>
   have hX1:Apart C env _ s0 X:=λb q=>xE (K.alive R b q) λo' e'=>⟨(hX b q).1,I1.owns e' (hX b q).2.1,(hX b q).2.2⟩
   refine zzB (wmN (K.lgo hr S1 R1 htg.1 hX1.two) λ_ s2 p=>(xAA p λS2 I2 R2=>zzB (eL.run (α:=ur) (ht hr S2 ((F.nextI I1 (λb hw q=>(hX b q).2.2.2 hw)).nextI I2 (λb hw q=>(hX1 b q).2.2.2 hw)) (ru.mono I2.pre I2.imm) q) λS3 N3 F3 q=>zzB (wmN (hb hr S3 F3 q) λf s4 p=>?_))))
   obtain⟨S4,N4,F4,r4,q⟩:=p
   have N24:=N3.trans N4
   have N04:=((N.stepI I1 (λb q=>(hX b q).1)).stepI I2 (λb q=>(hX b q).1)).trans N24
   have go:∀ {q:cZ K tgt bf n _ _ _ Q},kr C.M A (.forLoop target x body [] env) (y8 C env ρ0 s0 Q) s4:=λ{q}=>
    ih hr N04 S4 F4 (K.mono R2 N24.pre N24.imm (λb o q e'=>N24.kp b o e' (hX1 b q).2.1 (hX b q).2.2.2))
     (λb z=>xE (K.alive R2 b z) λo' e'=>⟨(hX b z).1,N24.own e' (hX1 b z).2.1,(hX b z).2.2⟩) q
   cases r4 with
   |next=>exact zzP ⟨rfl,go (q:=q)⟩
   |cont=>exact zzP ⟨rfl,go (q:=q)⟩
   |brk=>exact zzP ⟨S4,N04,F4,.next,q⟩
   |ret r4=>exact zzP ⟨S4,N04,F4,.ret r4,q⟩
def jV(K:ItK C)(fi:IF K)(tgt:AF)(bf:SF):SF:=λlo H Q=>fi lo H λit H1=>∃ n,cZ K tgt bf n it lo H1 Q
theorem SV.for_{K:ItK C}{pos}{fi:IF K}(hi:IV K r env iter fi)(ht:AV C r env target tgt)(hb:SVs C r env body bf)(htg:K.tg target/\K.need<=r)(hs:∀ x,gu iter env x=pure x):SV C r env (.For target iter body [] pos) (jV K fi tgt bf):=λ_ _ _ _ _ _ hr S F e=>wpAny_For (wmN (hi hr S F e) λx s1 h=>wmN h λy s2 z=>by
  cases z with |mk S2 N2 R2 hX q=>
  refine xE q λn q=>jz (uM ht hb htg n hr N2.wr S2 (F.nx N2) R2 (λb q=>⟨(hX b q).1,(hX b q).2.1,(hX b q).2.2,λhw=>?_⟩) q) λrr s3 hL=>?_
  ·refine xE (F.alv b hw) λo e'=>?_;cases (((hX b q).1)▸e')
  ·cases rr with
   |ok f=>exact hL
   |error _=>exact hL.elim) hs
def runW(t:TF)(b:SF):Nat->Lo->MH->SK->Prop
 |0,_,_,_=>fe
 |n+1,lo,H,Q=>t lo H λc H1=>bif c then b lo H1 (t7 (runW t b n) Q) else Q .next lo H1
def fM(t:TF)(b:SF):SF:=λlo H Q=>∃ n,runW t b n lo H Q
inductive WInv(C:Cx)(env:Env)(t:TF)(b:SF)(Q:SK)(ρ:ac Lc)(s:ak)(n:Nat)(s1:ak):Prop
 |mk {ρ1:ac Lc}{H1:MH}{lo1:Lo} (S:Sim C H1 ρ1 s1) (N:Nx ρ (Wr env) s ρ1 s1) (F:Fm C env ρ1 s1 lo1) (e:runW t b n lo1 H1 Q):WInv C env t b Q ρ s n s1
theorem SV.while_{pos}{b:SF}(ht:TV C r env test t)(hb:SVs C r env body b):SV C r env (.While test body [] pos) (fM t b):=by
 refine λA s ρ H lo Q hr S F e=>(xE e λn e=>wpAny_While (codeAny_whileLoop (WInv C env t b Q ρ s) ?_ n ⟨S,.refl,F,e⟩))
 intro n s1 p
 obtain⟨S1,N1,F1,e⟩:=p
 cases n with
 |zero=>exact e.elim
 |succ n=>
  refine ht.run hr S1 F1 e λ{y _ _ _} S2 N2 e=>?_
  have N02:=N1.trans N2.wr
  cases y with
  |false=>exact uj ⟨S2,N02,F1.nx N2,.next,e⟩
  |true=>
   refine wmN (hb hr S2 (F1.nx N2) e) λf s3 p=>?_
   obtain⟨S3,N3,F3,r3,e⟩:=p
   cases r3 with
   |next=>exact⟨n,ni _,S3,N02.trans N3,F3,e⟩
   |cont=>exact⟨n,ni _,S3,N02.trans N3,F3,e⟩
   |brk=>exact⟨S3,N02.trans N3,F3,.next,e⟩
   |ret r3=>exact⟨S3,N02.trans N3,F3,.ret r3,e⟩
def ALs(C:Cx)(r:Nat)(env:Env)(ts:ac Expr)(f:AF):Prop:=∀ ⦃A:ef⦄⦃s:ak⦄⦃ρ:ac Lc⦄⦃H:MH⦄⦃lo:Lo⦄⦃u:au⦄⦃v:V⦄⦃Q:Lo->MH->Prop⦄,Room r A->Sim C H ρ s->Fm C env ρ s lo->VR ρ s.heap u v->f v lo H Q->
  ar C.M A (assignAll u ((eh ts env).map (·.2))) (eL C env (Wr env) ρ s Q) NoE s
theorem ALs.one(h:AV C r env t f)(he:(eh [t] env).map (·.2)= [vy t env]):ALs C r env [t] f:=by
 exact λA s ρ H lo u v Q hr S F rv e=>(rwL he (h hr S F rv e))
def iF(f g:AF):AF:=λv lo H Q=>f v lo H λlo1 H1=>g v lo1 H1 Q
theorem ALs.cons(h:AV C r env t f)(hs:ALs C r env (t2::ts) g)(he:(eh (t::t2::ts) env).map (·.2)=vy t env::(eh (t2::ts) env).map (·.2))(hc:∃ x xs,(eh (t2::ts) env).map (·.2)=x::xs):ALs C r env (t::t2::ts) (iF f g):=by
 intro A s ρ H lo u v Q hr S F rv e
 rw[he]
 have key:ar C.M A (do sj [u] (vy t env u);assignAll u ((eh (t2::ts) env).map (·.2))) (eL C env (Wr env) ρ s Q) NoE s:=zzB (ax (eL.run (α:=ur) (h hr S F rv e) λS1 N1 F1 q=>wmN (hs hr S1 F1 (rv.nx N1) q) λ_ _ p=>p.from N1))
 refine xEE hc λx xs hx=>?_
 rw[hx]at key ⊢
 exact key
def bX(f:EF)(g:AF):SF:=λlo H Q=>f lo H λv H1=>g v lo H1 λlo' H2=>Q .next lo' H2
theorem SV.assigns{pos}(h:EV C r env e f)(ha:ALs C r env ts g)(hs:swapsWithSole ts e pos.line env=pure af)(hw:jo ts e env=pure none):SV C r env (.Assign ts e pos) (bX f g):=λ_ _ _ _ _ _ hr S F q=>wpAny_Assign_stores (h.run hr S F q λS1 N1 r1 q=>eL.run (α:=ur) (ha hr S1 (F.nx N1) r1 q) λS2 N2 F2 q=>⟨S2,N1.wr.trans N2,F2,.next,q⟩) hs hw
def upds:ac Str->ac V->Lo->ae Lo
 | [],[],lo=>aa lo
 |x::xs,v::vs,lo=>upds xs vs (upd lo x v)
 |_,_,_=>none
theorem aE4:∀ {us:ac au}{vs:ac V}{s:ak}{ρ:ac Lc}{H:MH}{lo lo':Lo},Sim C H ρ s->Fm C env ρ s lo->VRs ρ s.heap us vs->upds xs vs lo=aa lo'->Q lo' H-> (∀ x∈xs,env.kindOf x=aa .local\/env.kindOf x=aa .cell)->ar C.M A (pz (xs.map λn=>bindName env n) us) (eL C env (Wr env) ρ s Q) NoE s:=by
 induction xs with
 |nil=>
  intro us vs s ρ H lo lo' S F r e q _
  cases r with
  |nil=>refine cyS e λzq=>?_;subst zq;exact zzP ⟨S,.refl,F,q⟩
  |cons=>exact aE e
 |cons x xs ih=>
  intro us vs s ρ H lo lo' S F r e q hk
  cases r with
  |nil=>exact aE e
  | @cons u us v vs a b=>
   exact(zzB (ax (bindName_ (gV S F a (sY (hk x (.head _))) λ_ S1 N1 F1=>wmN (ih S1 F1 (b.nx N1) e q (λy hy=>hk y (.tail _ hy))) λ_ _ p=>p.from N1))):ar C.M A (do sj us (bindName env x u);pz (xs.map λn=>bindName env n) us) _ _ s)
theorem VRs.rev(r:VRs ρ h us vs):VRs ρ h us.reverse vs.reverse:=by
 induction us generalizing vs with
 |nil=>cases r;exact .nil
 |cons u us ih=>cases r with
  |cons a b=>simp only[List.reverse_cons];exact(ih b).append (.cons a .nil)
def bO(names:ac Str)(f:EF):SF:=λlo H Q=>f lo H λv H1=>Lf v.tp λvs=>vs.length=names.length/\Lf (upds names.reverse vs.reverse lo) λlo'=>Q .next lo' H1
theorem SV.swap{pos}(h:EV C r env e f)(hs:swapsWithSole [.Tuple elts k tpos] e pos.line env=pure af)(hw:jo [.Tuple elts k tpos] e env=pure (aa names))(hk:∀ x∈names,env.kindOf x=aa .local\/env.kindOf x=aa .cell):SV C r env (.Assign [.Tuple elts k tpos] e pos) (bO names f):=λ_ _ _ _ _ _ hr S F q=>Assign_Tuple_swapped (h.run hr S F q λS1 N1 r1 q=>q.elim λvs hv q=>q.2.elim λlo1 h2 q2=>by
  refine cN (r1.toTup hv) λa xs nn _ z36 gt rs=>?_;subst z36
  refine rwR q.1 (rwR rs.sz (unpackItems_tuple hr.1 ⟨_,gt,rfl,_,rfl⟩ λh' he=>?_))
  have hk':=wC he
  exact eL.run (α:=ur) (aE4 (S1.ext hk') ((F.nx N1).nx (.ext hk')) (rs.mono (be _) (eF hk')).rev h2 q2 (λx hx=>hk x (by simpa using hx))) λS2 N2 F2 q=>⟨S2,(N1.wr.trans (.ext hk')).trans N2,F2,.next,q⟩) hs hw
def zJ(x:Str)(g:OpF)(f:EF):SF:=λlo H Q=>Lf (lo x) λa=>f lo H λb H2=>Lp (g a b H2) λv H1=>Q .next (upd lo x v) H1
theorem SV.aug{pos'}{pos}(h:EV C r env e f)(ho:OpR C r (inplaceOp op) g)(hk:env.kindOf x=aa .local\/env.kindOf x=aa .cell)(hc:(x==("__classdict__" :Str))=af):SV C r env (.AugAssign (.Name x pos') op e pos) (zJ x g f):=λ_ _ _ _ _ _ hr S F q=>q.elim λa hx q=>wpAny_AugAssign_Name (pY (hk.imp_right .inl) hc F hx λu ru=>h.run hr S F q λS2 N2 r2 q=>bR.run (ho hr S2 (ru.nx N2) r2 q) λS3 N3 r3 q=>
  gV S3 ((F.nx N2).nx N3) r3 (sY hk) λ_ S4 N4 F4=>⟨S4,(N2.trans N3).wr.trans N4,F4,.next,q⟩)
def aZ(f:EF):SF:=λlo H Q=>f lo H λ_ H1=>Q .next lo H1
theorem SV.expr{pos}(h:EV C r env e f)(hi:qh env=af)(hs:qs e none pos.line env=pure af):SV C r env (.Expr e pos) (aZ f):=λ_ _ _ _ _ _ hr S F q=>wpAny_Expr_any (h.run hr S F q λS1 N1 r1 q=>⟨S1,N1.wr,F.nx N1,.next,q⟩) hi hs
def sNo:SF:=λ_ _ _=>fe
theorem SVs.no{b:ac jb}:SVs C r env b sNo:=λ_ _ _ _ _ _ _ _ _ q=>q.elim
theorem aBj(hl:IsL s.heap l items n)(hk: -1000000<k/\k<1000000)(hj:iu k items.size=aa j)(hQ:Q () {s with heap:=s.heap.update l (Obj.mapSeq (·.setIfInBounds j v))}):
  ar (gz prog w) A (wg (.ref l) (.int k t) v) Q E s:=by
 have hl':=hl.isList
 refine wW (id hl') λo ho hc ne hd=>?_
 have hlt:j<items.size:=by refine Or.elim (vK hj) (λh=>?_) λh=>?_<;>omega
 delta wg
 try with_reducible refine ax ?_
 first |refine zzB (zzP ?_) |skip
 refine zzB (wpAny_sequenceKey hl'.typeIs (by decide) ?_)
 refine zzB (dm hl'.typeIs slot_list_setitem
  (eo slot_list_setitem hl'.typeIs entry_list_setitem ?_ (args_list_setitem _ _ _)))
 refine(?_:ar _ _ (Builtin.List.listSubscript? (.int k t) >>=_) _ _ s)
 rcases vK hj with ⟨h0,e,_⟩ |⟨h0,h1,e,_⟩
 ·refine zzB (tq (fitsIndex_of h0 (by omega)) (xE (Int.eq_ofNat_of_zero_le h0) λj' z37=>?_));subst z37
  have:=by simpa using e
  subst this
  refine zzB (zzB (wpAny_seqItemAt ho hd (zzP (rwL (Array.getElem?_eq_getElem hlt) (zzB (wpAny_setSeqItemAt ho hd ?_))))))
  first
   |exact zzB (zzP (zzP ⟨.none,rfl,zzP hQ⟩))
   |exact zzP ⟨.none,rfl,zzP hQ⟩
 ·refine zzB (tq (fitsIndex_neg h0 (by omega)) ?_)
  have hidx:=seqIndex_neg h0 h1
  obtain⟨j',rfl⟩:∃ j:Nat,k=Int.negSucc j:=by
   cases k with
   |ofNat n=>exact ba h0 (mo.mpr (cj n))
   |negSucc n=>exact⟨n,rfl⟩
  refine zzB (zzB (zzB (iq ho hd (zzP (zzP ?_)))))
  rw[hj]
  simp only[Option.bind_some,(Array.getElem?_eq_getElem hlt),qt]
  refine zzB (wpAny_setSeqItemAt ho hd ?_)
  first
   |exact zzB (zzP (zzP ⟨.none,rfl,zzP hQ⟩))
   |exact zzP ⟨.none,rfl,zzP hQ⟩
theorem Sim.put(S:Sim C H ρ s)(hl:ρ[i]? =aa l)(hH:H[i]? =aa m)(hd:l.d=l.a)(ho:s.heap.get? l.a=aa o)(hi: ¬bB o)(hs:Heap.SameBut l.a s.heap h')(hn:∃ o,h'.get? l.a=aa o)(h1:∀ vs,m≠ .ro vs)(h2:∀ vs,m'≠ .ro vs)(hm:Imm s.heap h'->OR C ρ {s with heap:=h',toks:=k} l m'):
  Sim C (H.set i m') ρ {s with heap:=h',toks:=k}/\∀ W,Nx ρ W s ρ {s with heap:=h',toks:=k}:=by
 have im:=dN hs ho hi
 refine⟨S.upd (s':= {s with heap:=h',toks:=k}) hl hH h1 (λb o e hb=>(hs.2 b λq=>hb (.inl q)).trans e) im rfl rfl (hm im) h2,
  λW=>⟨be _,λl hl=>by simp at hl,λb o e ho _=>(hs.2 b λq=>ho ⟨l,dc hl,.inl q⟩).trans e,im,λb o e=>?_⟩⟩
 by_cases q:b=l.a
 ·exact rwL q hn
 ·exact⟨o,(hs.2 b q).trans e⟩
theorem mA.put(S:Sim C H ρ s)(O:mA H ρ s i l vs xs n)(f:kq au->kq au)(hv:VRs ρ s.heap (f xs).toList vs'):Sim C (H.set i (.list vs')) ρ {s with heap:=s.heap.update l.a (Obj.mapSeq f),toks:=k}/\∀ W,Nx ρ W s ρ {s with heap:=s.heap.update l.a (Obj.mapSeq f),toks:=k}:=S.put O.g O.h O.d O.x (by simp [bB]) (Heap.SameBut.update ..) ⟨_,O.x.update f⟩ (by intro _ h;cases h) (by intro _ h;cases h) λim=>⟨O.d,O.gn,f xs,_,O.x.update f,hv.mono (be _) im⟩
def dput(f:Int->ae V)(k:Int)(v:V):Int->ae V:=λx=>if x=k then aa v else f x
theorem mV(kvs:ac (Int×au))(k x:Int)(v:au):ox (stored kvs k v) x=if x=k then aa v else ox kvs x:=by
 delta stored
 by_cases hk:kvs.any (λkv=>decide (kv.1=k))=ag
 ·rw[aw hk]
  by_cases hx:x=k
  ·subst hx
   rw[aw rfl]
   induction kvs with
   |nil=>simp at hk
   |cons a t ih=>
    by_cases ha:a.1=x
    ·simp [ox,ha]
    ·have:=ih (by simpa [ha] using hk:t.any (λkv=>decide (kv.1=x))=ag)
     simp only[ox,jf,ha,jw,vz,decide_false]at this ⊢
     exact this
  ·rw[aq hx]
   clear hk
   induction kvs with
   |nil=>rfl
   |cons a t ih=>
    by_cases ha:a.1=k
    ·simp only[ox,jf,ha,vh,vz]at ih ⊢
     rw[(by simpa using λe=>hx e.symm:decide (k=x)=af)]
     exact ih
    ·by_cases hax:a.1=x
     ·refine rwR hax ?_
      simp only[ox,jf,ha,jw,vz,decide_true,qt]
     ·simp only[ox,jf,ha,jw,vz,hax,decide_false]at ih ⊢
      exact ih
 ·rw[aq hk]
  delta ox
  rw[List.find?_append]
  by_cases hx:x=k
  ·subst hx
   have:kvs.find? (λkv=>decide (kv.1=x))=none:=by
    rw[List.find?_eq_none];exact λa ha h=>(hk (List.any_eq_true.mpr ⟨a,ha,h⟩))
   simp [this]
  ·simp [hx,(by simpa using λe=>hx e.symm:decide (k=x)=af)]
theorem Sim.setD(S:Sim C H ρ s)(hl:ρ[i]? =aa l)(hH:H[i]? =aa (.dict n f))(hd:l.d=l.a)(hg:l.g=none)(hx:s.heap.DictOf (si C.prog C.w) l.a kvs)(hn:kvs.length<=n)(hf:∀ k,OV ρ s.heap (ox kvs k) (f k))(rv:VR ρ s.heap u v)(hx':h'.DictOf (si C.prog C.w) l.a (stored kvs k u))(hs:Heap.SameBut l.a s.heap h'):Sim C (H.set i (.dict (n+1) (dput f k v))) ρ {s with heap:=h',toks:=tk}/\∀ W,Nx ρ W s ρ {s with heap:=h',toks:=tk}:=by
 refine cN (id hx) λo es ep ho hc hdt _=>S.put hl hH hd ho (by delta bB;exact rwL hdt id) hs (let ⟨o,_,_,e,_⟩:=hx';⟨o,e⟩) (by intro _ h;cases h) (by intro _ h;cases h) λim=>⟨hd,hg,_,hx',Nat.le_trans (stored_length_le _ _ _) (kh hn),λx=>?_⟩
 rw[mV]
 delta dput
 by_cases hx:x=k
 ·rw[aw hx,aw hx];exact rv.mono (be _) im
 ·rw[aq hx,aq hx];exact(hf x).mono (be _) im
def setO(H:MH)(i:Nat)(k:Int)(v:V):MO->ae MH
 | .list vs=>if-1000000<k/\k<1000000 then(iu k vs.length).map λj=>H.set i (.list (vs.set j v)) else none
 | .dict n f=>if n<1000000 then aa (H.set i (.dict (n+1) (dput f k v))) else none
 |_=>none
def tU(a b v:V)(H:MH):ae MH:=a.rf.bind λi=>(Ti b).bind λk=>H[i]?.bind (setO H i k v)
theorem VRs.set(r:VR ρ h u v):∀ {us:ac au}{vs:ac V} (j:Nat),VRs ρ h us vs->VRs ρ h (us.set j u) (vs.set j v)
 |_,_,_,.nil=>.nil
 |_,_,0,.cons a b=>.cons r b
 |_,_,j+1,.cons a b=>.cons a (VRs.set r j b)
theorem m2{a b:au}{K:ur->ak->Prop}(S:Sim C H ρ s)(ra:VR ρ s.heap a va)(rb:VR ρ s.heap b vb)(rv:VR ρ s.heap u v)(e:tU va vb v H=aa H')(k:∀ s',Sim C H' ρ s'->(∀ W,Nx ρ W s ρ s')->K () s'):ar C.M A (wg a b u) K E s:=by
 refine xEA (aj.mp e) λi hi e1=>xEA (aj.mp e1) λkk hk e2=>xEA (aj.mp e2) λm hH e3=>cX (ra.toRef hi) λl _ z38 g=>?_;subst z38
 refine VR.ti (P:=λb=>ar C.M A (wg _ b u) _ _ s) rb hk λt=>?_
 clear e e1 e2
 cases m with
 |list vs=>
  replace e3:(if-1000000<kk/\kk<1000000 then(iu kk vs.length).map λj=>H.set i (.list (vs.set j v)) else none)=aa H':=e3
  split at e3
  ·rename_i hk
   refine xEA (df.mp e3) λj hj z39=>?_;subst z39
   refine xEE (k9 S g hH) λxs n O=>aBj O.x hk (by exact rwL O.r.sz hj) ?_
   have:=O.put (k:=s.toks) S (λxs=>xs.setIfInBounds j u) (by simpa using VRs.set rv j O.r)
   exact k _ this.1 this.2
  ·cases e3
 |dict n f=>
  replace e3:(if n<1000000 then aa (H.set i (.dict (n+1) (dput f kk v))) else none)=aa H':=e3
  split at e3
  ·refine cyS e3 λzq=>?_;subst zq
   refine vD (S.objs i _ l hH g) λh1 h2 kvs hx hle hf=>wpAny_setItem_pairs (qu _ _ _ _) hx (λh' hx' hs=>?_) (by rw[dh];omega)
   have:=S.setD (tk:=s.toks+1) g hH h1 h2 hx hle hf rv hx' hs
   exact k _ this.1 this.2
  ·cases e3
 |_=>cases e3
def fY(f1 f2:EF):AF:=λv lo H Q=>f1 lo H λa H1=>f2 lo H1 λb H2=>Lf (tU a b v H2) λH3=>Q lo H3
theorem AV.sub(h1:EV C r env e1 f1)(h2:EV C r env e2 f2):AV C r env (.Subscript e1 e2 pos) (fY f1 f2):=by
 intro A s ρ H lo u v Q hr S F rv e
 rw[assign_Subscript]
 exact zzB (ax (h1.run hr S F e λS1 N1 r1 e=>zzB (ax (h2.run hr S1 (F.nx N1) e λS2 N2 r2 e=>e.elim λH3 g3 q=>
  zzB (dw (zzB (ax (m2 S2 (r1.nx N2) r2 ((rv.nx N1).nx N2) g3 λ_ S3 N3=>wpAny_release ⟨S3,(N1.trans N2).wr.trans (N3 _),((F.nx N1).nx N2).nx (N3 _),q⟩))))))))
def qG:EF:=λ_ H Q=>Q (.ref H.length) (H++[.dict 0 λ_=>Option.none])
theorem EV.dict0{pos}:EV C r env (.Dict [] [] pos) qG:=λA s ρ H lo Q hr S F e=>
 wpAny_Dict_empty ⟨S.alloc {cls:=.type "dict",data:=.dict #[]} (.dict 0 λ_=>Option.none) ⟨rfl,rfl,[],⟨_,#[],0,Heap.get?_push_size _ rfl,⟨rfl,rfl,rfl⟩,rfl,λ_ he=>by simp at he,.nil,by simp⟩,ce _,λk=>trivial⟩,.alloc _,VR.ref (l:=⟨s.heap.objs.size,s.heap.objs.size,Option.none⟩) (by rw[<-S.len];simp),e⟩
noncomputable abbrev CF:=ac V->MH->EK->Prop
def Keeps(C:Cx)(f:au):Prop:=∀ h:lu,(∀ b o,C.base.heap.get? b=aa o->h.get? b=aa o)->∃ k,(k=Keeper.frame\/k=Keeper.machine\/k=Keeper.boundFrame)/\mq C.M h (keeperOf f) k
structure CV(C:Cx)(r:Nat)(f:au)(g:CF):Prop where
 keep:Keeps C f
 call:∀ {A:ef}{s:ak}{ρ:ac Lc}{H:MH}{us:ac au}{vs:ac V}{Q:EK},Room r A->Sim C H ρ s->VRs ρ s.heap us vs->g vs H Q->
  ar C.M A (PySem.call f us) (bR C ρ s Q) NoE s
theorem cB{id:pj}:Keeps C (.builtin id):=λh _=>⟨.machine,.inr (.inl rfl),.now⟩
theorem eQ{id:pj}:Keeps C (.type id):=λh _=>⟨.machine,.inr (.inl rfl),.now⟩
def lf(g:ac V->MH->ae (V×MH)):CF:=λvs H Q=>Lp (g vs H) Q
theorem CV.of(hk:Keeps C f)(h:∀ {A:ef}{s:ak}{ρ:ac Lc}{H:MH}{us:ac au}{vs:ac V}{v:V}{H':MH},Room r A->Sim C H ρ s->VRs ρ s.heap us vs->g vs H=aa (v,H')-> ar C.M A (PySem.call f us) (EPo C ρ s H' v) NoE s):CV C r f (lf g):=⟨hk,λhr S hu q=>q.elim λp e q=>wmN (h hr S hu e) λ_ _ p=>p.post q⟩
def mC(env:Env)(es:ac Expr):Prop:=(es= []\/∃ e rest,es=e::rest/\di es env=(af,iw e env)::di rest env)/\∀ pos,(ky pos (di es env)).any (·.1)=af
theorem kO(h:EVs C r env es fs)(hf:mC env es)(hr:Room r A)(S:Sim C H ρ s)(F:Fm C env ρ s lo)(e:fs lo H Q):ar C.M A (evalArgs f ag (ky pos (di es env)) []) (λa s'=>a.kw= []/\wU C ρ s Q a.pos s') NoE s:=by
 have h1:=h (pos:=pos) hr S F e
 rcases hf.1 with rfl |⟨e1,rest,rfl,he⟩
 ·delta evalArgs
  exact zzB (wmN h1 λvs s' q=>zzB (zzP (ax (zzB (zzP (zzB (zzP (zzP ⟨rfl,q⟩))))))))
 ·rw[he]at h1 ⊢
  exact evalArgs_plain (wmN h1 λ_ _ q=>⟨rfl,q⟩)
def Glo(C:Cx)(x:Str)(f:au):Prop:=∃ mg,C.base.heap.Ns ew mg/\(mg x=aa f\/(mg x=none/\∃ mb,C.base.heap.Ns jv mb/\mb x=aa f))
theorem j9{h h':lu}{a:bz}(hn:h.Ns a m)(hk:∀ b o,h.get? b=aa o->h'.get? b=aa o):h'.Ns a m:=let ⟨o,es,ep,ho,q⟩:=hn;⟨o,es,ep,hk _ _ ho,q⟩
theorem lD(hg:Glo C x f)(hk:env.kindOf x=aa .globalImplicit)(hd:(x==("__debug__" :Str))=af)(S:Sim C H ρ s)(F:Fm C env ρ s lo)(h:Q f s):ar C.M A (iw (.Name x pos) env) Q NoE s:=by
 refine xEA hg λmg hmg hx=>?_
 have hG:s.heap.Ns env.globals mg:=by exact rwL F.gl (j9 hmg S.keep)
 refine Name_function_global F.fn hk ?_ hd
 rcases hx with hx |⟨hx,mb,hmb,hb⟩
 ·exact loadGlobal_global hG hx h
 ·exact loadGlobal_builtin hG hx (by exact rwL F.bi (j9 hmb S.keep)) hb h
def aK(g:CF)(fs:EFs):EF:=λlo H Q=>fs lo H λvs H1=>g vs H1 Q
theorem l7(hf:CV C r f g)(ha:EVs C r env es fs)(hfl:mC env es)(hr:Room r A)(S:Sim C H ρ s)(F:Fm C env ρ s lo)(r1:VRs ρ s.heap first fv)(q:fs lo H λvs H1=>g (fv++vs) H1 Q):ar C.M A (xo pos f first (ky pos (di es env)) []) (bR C ρ s Q) NoE s:=ot (by rw[hfl.2];rfl) hf.keep (wmN (kO ha hfl hr S F q) λa s1 p=>by
  obtain⟨ps,kw⟩:=a
  obtain⟨e,S1,N1,rs,q⟩:=p
  subst e
  exact⟨S1.keep,wmN (hf.call hr S1 ((r1.nx N1).append rs) q) λ_ _ p=>p.from N1⟩)
theorem EV.call(hf:CV C r f g)(hg:Glo C x f)(ha:EVs C r env es fs)(hfl:mC env es)(hk:env.kindOf x=aa .globalImplicit)(hd:(x==("__debug__" :Str))=af):EV C r env (.Call (.Name x np) es [] pos) (aK g fs):=λ_ _ _ _ _ _ hr S F e=>mr (lD hg hk hd S F (l7 hf ha hfl hr S F .nil e))
theorem eV{P:au->ak->Prop}(hbase:jp o name env (iw o env)=iw o env)(hfew:((ky pos (di args env)).all (λx=> !x.1) && (backToKw pos (wx [] env)).all (λx=>x.1.isSome) && decide (args.length+([]:ac wh).length+(if ([]:ac wh).isEmpty then 0 else 1)<30))=ag)(hline:(apos.endLine==pos.line)=ag)(h:ar C.M A (iw o env) (λov s₁=>∀ pl,ar C.M A (getMethod ov name pl) (λq s₂=>ar C.M A (xo pos q.1 q.2 (ky pos (di args env)) []) Q E s₂) E s₁) E s):ar C.M A (iw (.Call (.Attribute o name apos) args [] pos) env) Q E s:=by
 rw[arm_eval_Call,hbase]
 refine zzB (dv h (λov s₁ h₁=>(zzB (dw ?_))) λ_ _ e=>e)
 have hform:methodCallForm (args.length+([]:ac wh).length) (ky pos (di args env)) (backToKw pos (wx [] env))=ag:=hfew
 have hpos:methodCallPos ag o env apos pos=pure pos:=by delta methodCallPos;simp [hline]
 delta methodCall
 exact rwL hform (zzB (ax (dv (h₁ _) (λq s₂ h₂=>(zzB (ja hpos h₂))) λ_ _ e=>e)))
structure eZ(env:Env)(o:Expr)(name:Str)(apos pos:Pos)(args:ac Expr):Prop where
 base:jp o name env (iw o env)=iw o env
 few:((ky pos (di args env)).all (λx=> !x.1) && (backToKw pos (wx [] env)).all (λx=>x.1.isSome)
   && decide (args.length+([]:ac wh).length+(if ([]:ac wh).isEmpty then 0 else 1)<30))=ag
 line:(apos.endLine==pos.line)=ag
theorem mK{id:pj}{K:au->ak->Prop}(ho:EV C r env o f)(sh:eZ env o name apos pos args)(slot:Slot "list" name id)(hty:qw (.builtin id)=pure (.type "method_descriptor"))(hr:Room r A)(S:Sim C H ρ s)(F:Fm C env ρ s lo)(e:f lo H Q)(hQ:∀ v H1,Q v H1->∃ i vs,v.rf=aa i/\H1[i]? =aa (.list vs))(h:∀ {s1 ρ1 l i vs xs n H1},Sim C H1 ρ1 s1->Nx ρ noW s ρ1 s1->mA H1 ρ1 s1 i l vs xs n->Q (.ref i) H1->ar C.M A (xo pos (.builtin id) [.ref l.a] (ky pos (di args env)) []) K NoE s1):ar C.M A (iw (.Call (.Attribute o name apos) args [] pos) env) K NoE s:=eV (P:=λ_ _=>vx) sh.base sh.few sh.line (ho.run hr S F e λS1 N1 r1 q pl=>by
  refine iQ (hQ _ _ q) λi vs hi hv=>cX (r1.toRef hi) λl hv' z40 g=>rwL z40 ?_
  subst hv'
  exact xEE (k9 S1 g hv) λxs n O=>getMethod_builtin ⟨_,O.x,rfl⟩ PySem.F.plainAttrs_list slot hty (λa e=>by cases e;exact⟨_,O.x,rfl⟩) (h S1 N1 O q))
def eM1(f g:EF)(k:Nat->ac V->V->MH->EK->Prop):EF:=λlo H Q=>f lo H λa H1=>Lf a.rf λi=>(∃ vs,H1[i]? =aa (.list vs))/\g lo H1 λv H2=>Lf (H2[i]?.bind MO.own) λvs=>k i vs v H2 Q
def cV(f g:EF):EF:=eM1 f g λi vs v H2 Q=>vs.length<1000000/\Q .none (H2.set i (.list (vs++[v])))
theorem EV.append(ho:EV C r env o f)(he:EV C r env e g)(sh:eZ env o "append" apos pos [e])(ht:ky pos (di [e] env)= [(af,iw e env)]):EV C r env (.Call (.Attribute o "append" apos) [e] [] pos) (cV f g):=λ_ _ _ _ _ _ hr S F q=>mK ho sh PySem.F.slot_list_append PySem.F.type_list_append hr S F q (λv H1 q=>q.elim λi hi q=>⟨i,q.1.choose,hi,q.1.choose_spec⟩) λS1 N1 O q=>by
  refine rwL ht (PySem.P.append_list (he.run hr S1 (F.nx N1) q.2 λ{_ s2 _ _ _} S2 N2 r2 q=>q.elim λvs hv q=>(xEE (k9 S2 (aQ N2.pre O.g) (k8 hv)) λxs n O2=>?_)))
  have st:=O2.put (k:=s2.toks) S2 (λxs=>xs.push _) (by simpa using O2.r.append (.cons r2 .nil))
  exact⟨xs,n,by rw[dh,O2.r.sz];omega,O2.x,st.1,(N1.trans N2).trans (st.2 _),.none,q.2⟩
def eM0(f:EF)(k:Nat->ac V->MH->EK->Prop):EF:=λlo H Q=>f lo H λa H1=>Lf a.rf λi=>Lf (H1[i]?.bind MO.own) λvs=>vs.length<1000000/\k i vs H1 Q
def ePop(f:EF):EF:=eM0 f λi vs H1 Q=>Lf vs[vs.length-1]? λv=>Q v (H1.set i (.list (vs.eraseIdx (vs.length-1))))
theorem VRs.erase:∀ {us:ac au}{vs:ac V} (j:Nat),VRs ρ h us vs->VRs ρ h (us.eraseIdx j) (vs.eraseIdx j)
 |_,_,_,.nil=>.nil
 |_,_,0,.cons a b=>b
 |_,_,j+1,.cons a b=>.cons a (VRs.erase j b)
theorem mA.same(O:mA H ρ s i l vs xs n)(e:H[i]?.bind MO.own=aa ws):ws=vs:=by
 rw[O.h]at e;exact(Option.some.inj e).symm
theorem EV.pop(ho:EV C r env o f)(sh:eZ env o "pop" apos pos []):EV C r env (.Call (.Attribute o "pop" apos) [] [] pos) (ePop f):=λ_ _ _ _ _ _ hr S F q=>mK ho sh PySem.F.slot_list_pop PySem.F.type_list_pop hr S F q (λv H1 q=>q.elim λi hi q=>q.elim λvs hv _=>⟨i,vs,hi,k8 hv⟩) λ{s1 ρ1 l i vs xs n H1} S1 N1 O q=>by
  refine q.elim λi' hi q=>cyS hi λzq=>?_;subst zq
  refine q.elim λws hw q=>?_
  obtain rfl:=O.same hw
  refine q.2.elim λv hv q2=>xEA (O.r.get hv) λu hu ru=>?_
  have hsz:=O.r.sz
  refine PySem.P.pop_list O.x (by rw[hsz];simpa using hu) ?_ (by rw[dh];omega)
  have st:=O.put (k:=s1.toks) S1 (vs':=ws.eraseIdx (ws.length-1)) (λys=>ys.eraseIdxIfInBounds (xs.size-1)) (by
   rw[hsz]
   have e:(xs.eraseIdxIfInBounds (ws.length-1)).toList=xs.toList.eraseIdx (ws.length-1):=by
    unfold Array.eraseIdxIfInBounds
    split
    ·rw[Array.toList_eraseIdx]
    ·rename_i hh;rw[List.eraseIdx_of_length_le (by simp;exact A9 hh)]
   exact rwL e (VRs.erase (ws.length-1) O.r))
  exact⟨st.1,N1.trans (st.2 _),ru.nx (st.2 noW),q2⟩
def oQ(f:EF):EF:=eM0 f λi vs H1 Q=>Q .none (H1.set i (.list []))
theorem EV.clear(ho:EV C r env o f)(sh:eZ env o "clear" apos pos []):EV C r env (.Call (.Attribute o "clear" apos) [] [] pos) (oQ f):=λ_ _ _ _ _ _ hr S F q=>mK ho sh PySem.F.slot_list_clear PySem.F.type_list_clear hr S F q (λv H1 q=>q.elim λi hi q=>q.elim λvs hv _=>⟨i,vs,hi,k8 hv⟩) λ{s1 ρ1 l i vs xs n H1} S1 N1 O q=>by
  refine q.elim λi' hi q=>cyS hi λzq=>?_;subst zq
  refine q.elim λws hw q=>?_
  obtain rfl:=O.same hw
  have hsz:=O.r.sz
  refine PySem.P.clear_list O.x ?_ (by rw[dh];omega)
  have st:=O.put (k:=s1.toks) S1 (vs':=[]) (λys=> #[]) .nil
  exact⟨st.1,N1.trans (st.2 _),.none,q.2⟩
def lS(vs:ac V):ae (ac Int):=vs.mapM Ti
theorem xY(r:VRs ρ h us vs):∀ {is:ac Int},lS vs=aa is->∃ ts:ac Tok,ts.length=is.length/\us=(is.zip ts).map λx=>Value.int x.1 x.2:=r.ind (P:=λus vs=>∀ {is:ac Int},lS vs=aa is->∃ ts:ac Tok,ts.length=is.length/\us=(is.zip ts).map λx=>Value.int x.1 x.2) (λe=>by exact cxS e ⟨[],rfl,rfl⟩) λ{u us v vs} a _ ih {is} e=>by
  simp only[lS,vg,wf,aj,pure_def,Option.some.injEq]at e
  refine aAm e λi h1 js h2 z42=>?_;clear e;subst z42
  exact xEA (ih h2) λts h3 h4=>VR.ti (P:=λu=>∃ ts:ac Tok,ts.length=(i::js).length/\u::_=((i::js).zip ts).map λx=>Value.int x.1 x.2) a h1 λt=>⟨t::ts,bg (·+1) h3,bg (Value.int i t::·) h4⟩
def pRng(C:Cx):ItP C (Int×Nat×Int) where
 nx:=λit H=>aa (match it with | (x,n+1,c)=>aa (.int x,(x+c,n,c)) | (_,0,_)=>none)
 rel:=λρ s it a=>IsRangeIter s.heap a it.1 it.2.1 it.2.2
 T:="range_iterator"
 own:=by decide
 mono:=λh1 e i hk=>hk _ h1
 obj:=λh1=>⟨_,h1,rfl,by simp [bB]⟩
 item:=by
  rintro A s ρ H ⟨x,n,c⟩ a v it' Q hh S h1 e k
  cases n with
  |succ n=>
   cases e
   refine wpAny_pyNext_range_item h1 (by simp) λh' h2 hs=>k _ h' _ hs (.int _ _) λs' hs' im=>?_
   subst hs'
   simpa using h2
  |zero=>cases e
 fin:=by
  rintro A s ρ H ⟨x,n,c⟩ a Q hh S h1 e k
  cases n with
  |succ n=>cases e
  |zero=>exact wpAny_pyNext_range_end hh h1 (by simp) λh' he=>k h' he
noncomputable abbrev mF(C:Cx):ItK C:=(pRng C).it
def V.rn:V->ae (Int×Int×Int) | .rng a b c=>aa (a,b,c) |_=>Option.none
theorem VR.toRng(r:VR ρ h u v)(e:v.rn=aa p):∃ a t1 t2 t3,u= .ref a/\IsRange h a p.1 p.2.1 p.2.2 t1 t2 t3:=by
 cases v with
 |rng a b c=>exact cxSP e r.inv
 |_=>first |exact aE e |cases e
def rOk(a b c:Int):dj:=decide (-1000000<a) && decide (a<1000000) && decide (-1000000<b) && decide (b<1000000) && (c==1 || c== -1)
def tP(a b c:Int):Nat:=bif c==1 then(b-a).toNat else(a-b).toNat
theorem rOk_1{a b:Int}(h:rOk a b c=ag): -1000000<a/\a<1000000/\ -1000000<b/\b<1000000/\(c=1\/c= -1):=by
 have h1:=bx.mp h
 have h2:=bx.mp h1.1
 have h3:=bx.mp h2.1
 have h4:=bx.mp h3.1
 exact⟨cx h4.1,cx h4.2,cx h3.2,cx h2.2,(Bool.or_eq_true_iff.mp h1.2).imp pn pn⟩
theorem rSz(a b:Int):Builtin.Range.rangeSize a b 1=((b-a).toNat:Int):=by
 unfold Builtin.Range.rangeSize
 rw[aw (by decide)]
 by_cases q:a<b
 ·rw[aw q,Int.ediv_one,Int.sub_add_cancel]
  exact(Int.toNat_of_nonneg (jr (oe q))).symm
 ·rw[aq q,Int.toNat_of_nonpos (Int.sub_nonpos_of_le (mo.mp q))];rfl
theorem rSzM(a b:Int):Builtin.Range.rangeSize a b (-1)=((a-b).toNat:Int):=by
 unfold Builtin.Range.rangeSize
 rw[aq (by decide),show-(-1:Int)=1 from rfl]
 by_cases q:b<a
 ·rw[aw q,Int.ediv_one,Int.sub_add_cancel]
  exact(Int.toNat_of_nonneg (jr (oe q))).symm
 ·rw[aq q,Int.toNat_of_nonpos (Int.sub_nonpos_of_le (mo.mp q))];rfl
theorem w8{a b:Int}(h:rOk a b c=ag):Builtin.Range.rangeSize a b c=(tP a b c:Int)/\Builtin.Range.small a b c=ag/\tP a b c<2000000:=by
 refine xAAAA (rOk_1 h) λh1 h2 h3 h4 z45=>?_
 rcases z45 with rfl |rfl
 ·have hl:=A10 h1 h4
  refine⟨rSz a b,?_,hl⟩
  unfold Builtin.Range.small
  rw[rSz]
  unfold Builtin.Range.rangeFitsLong
  simp;exact A11 h2 h3 hl
 ·have hl:=AF1 h2 h3
  refine⟨rSzM a b,?_,hl⟩
  unfold Builtin.Range.small
  rw[rSzM]
  unfold Builtin.Range.rangeFitsLong
  simp;exact AF0 h1 h4 hl
def iR(f:EF):Lo->MH->(Int×Nat×Int->MH->Prop)->Prop:=λlo H Q=>f lo H λv H1=>Lf v.rn λp=>rOk p.1 p.2.1 p.2.2=ag/\Q (p.1,tP p.1 p.2.1 p.2.2,p.2.2) H1
theorem IV.range(h:EV C r env e f):IV (mF C) r env e (iR f):=λ_ _ _ _ _ _ hr S F q=>h.run hr S F q λS1 N1 r1 q=>q.elim λp hp q=>by
  refine xAA (w8 q.1) λk1 k2 k3=>mT (r1.toRng hp) λa t1 t2 t3 z46 g=>?_;subst z46
  exact wpAny_pyIter_range g k2 (rwL k1 (wT.mk (S1.push _) (N1.trans (.push _)) ⟨_,rfl,rfl,show IsRangeIter _ _ _ _ _ from Heap.get?_push_size _ rfl⟩ (λb hb=>by exact rwL (show b=_ from hb) (c7 N1 S1 (bG _))) q.2))
theorem VRs.a1(r:VRs ρ h us [x]):∃ u,us= [u]/\VR ρ h u x:=by cases r with |cons a b=>cases b;exact⟨_,rfl,a⟩
theorem VRs.a2(r:VRs ρ h us [x,y]):∃ u v,us= [u,v]/\VR ρ h u x/\VR ρ h v y:=by cases r with |cons a b=>exact xEA b.a1 λv e c=>⟨_,v,by rw[e],a,c⟩
def Tis(vs:ac V):ae (ac Int):=vs.mapM Ti
theorem VRs.ints(r:VRs ρ h us vs)(e:Tis vs=aa is):∃ ts:ac Tok,ts.length=is.length/\us=(is.zip ts).map λx=>Value.int x.1 x.2:=xY r e
theorem ts1{a:Int}(e:ts.length= [a].length)(h:us=(([a]:ac Int).zip ts).map λx=>Value.int x.1 x.2):∃ t,us= [.int a t]:=by
 match ts,e with
 | [t],_=>exact⟨t,h⟩
theorem tcons{α:Type}{l:ac α}(e:l.length=n+1):∃ a t,l=a::t/\t.length=n:=by
 cases l with
 |nil=>exact ba e.symm (Nat.succ_ne_zero _)
 |cons a t=>exact⟨a,t,rfl,Nat.succ.inj e⟩
theorem ts2{a b:Int}(e:ts.length= [a,b].length)(h:us=(([a,b]:ac Int).zip ts).map λx=>Value.int x.1 x.2):∃ t u,us= [.int a t,.int b u]:=by
 refine iQ (tcons e) λt l z e1=>?_;subst z
 refine iQ (tcons e1) λu l z e2=>?_;subst z
 exact⟨t,u,(rwR (List.eq_nil_of_length_eq_zero e2) h)⟩
theorem ts3{a b:Int}(e:ts.length= [a,b,c].length)(h:us=(([a,b,c]:ac Int).zip ts).map λx=>Value.int x.1 x.2):∃ t u v,us= [.int a t,.int b u,.int c v]:=by
 refine iQ (tcons e) λt l z e1=>?_;subst z
 refine iQ (tcons e1) λu l z e2=>?_;subst z
 refine iQ (tcons e2) λv l z e3=>?_;subst z
 exact⟨t,u,v,(rwR (List.eq_nil_of_length_eq_zero e3) h)⟩
theorem aC5{α β:Type}{F:ac α->ae β}{l:ac α}{b:β}(e:F l=aa b)(h0:F []=none)(h2:∀ a c t,F (a::c::t)=none):∃ a,l= [a]:=by
 cases l with
 |nil=>cases (h0▸e)
 |cons a l=>cases l with
  |nil=>exact⟨_,rfl⟩
  |cons c l=>rw[h2]at e;cases e
theorem rO{α β:Type}{F:ac α->ae β}{l:ac α}{b:β}(e:F l=aa b)(h0:F []=none)(h1:∀ a,F [a]=none)(h2:∀ a c d t,F (a::c::d::t)=none):∃ a c,l= [a,c]:=by
 cases l with
 |nil=>cases (h0▸e)
 |cons a l=>exact xEA (xE (aC5 (F:=λl=>F (a::l)) e (h1 a) (h2 a)) λc e=>⟨c,e,trivial⟩) λc e _=>⟨a,c,by rw[e]⟩
theorem aC4{α β:Type}{F:ac α->ae β}{l:ac α}{b:β}(e:F l=aa b)(h0:F []=none)(h1:∀ a,F [a]=none)(h3:∀ a c,F [a,c]=none)(h2:∀ a c d g t,F (a::c::d::g::t)=none):∃ a c d,l= [a,c,d]:=by
 cases l with
 |nil=>cases (h0▸e)
 |cons a l=>exact xEE (rO (F:=λl=>F (a::l)) e (h1 a) (h3 a) (h2 a)) λc d e=>⟨a,c,d,by rw[e]⟩
def rngF(H:MH)(is:ac Int):ae (V×MH):=match is with
 | [n]=>aa (.rng 0 n 1,H)
 | [a,b]=>aa (.rng a b 1,H)
 | [a,b,c]=>if c= -1 then aa (.rng a b c,H) else none
 |_=>none
def dF:CF:=lf λvs H=>(Tis vs).bind (rngF H)
theorem l123{α β:Type}{F:ac α->ae β}{l:ac α}{b:β}(e:F l=aa b)(h0:F []=none)(h4:∀ a c d g t,F (a::c::d::g::t)=none):(∃ a,l= [a])\/(∃ a c,l= [a,c])\/∃ a c d,l= [a,c,d]:=by
 cases l with
 |nil=>cases (h0▸e)
 |cons a l=>cases l with
  |nil=>exact .inl ⟨_,rfl⟩
  |cons c l=>cases l with
   |nil=>exact .inr (.inl ⟨_,_,rfl⟩)
   |cons d l=>cases l with
    |nil=>exact .inr (.inr ⟨_,_,_,rfl⟩)
    |cons g l=>rw[h4]at e;cases e
theorem CV.range:CV C r (.type "range") dF:=.of eQ λ{A s ρ H us vs v H'} hr S rs e=>by
 refine xEA (aj.mp e) λis hi e=>xEA (rs.ints hi) λts h1 h2=>Or.elim (l123 e rfl λ_ _ _ _ _=>rfl) (λz=>?_) λz=>Or.elim z (λz=>?_) λz=>?_
 ·refine xE z λa z=>?_;subst z;exact xE (ts1 h1 h2) λt z47=>rwL z47 (cxSP e (call_range_1 ⟨ρ,(S.push _).toks _,(Nx.push _).trans (.toks _),.rng (Heap.get?_push_size _ rfl)⟩))
 ·refine xEE z λa b z=>?_;subst z;exact xEE (ts2 h1 h2) λt u z48=>rwL z48 (cxSP e (call_range_2 ⟨ρ,(S.push _).toks _,(Nx.push _).trans (.toks _),.rng (Heap.get?_push_size _ rfl)⟩))
 ·refine vC z λa b c z=>?_;subst z;refine vC (ts3 h1 h2) λt u w z48=>rwL z48 ?_
  replace e:=show (if _ then _ else _)=_ from e
  split at e
  ·rename_i z49
   subst z49
   exact cxSP e (call_range_3 (by decide) ⟨ρ,(S.push _).toks _,(Nx.push _).trans (.toks _),.rng (Heap.get?_push_size _ rfl)⟩ (.inl (PyProof.noPylong_small (by decide))))
  ·exact aE e
theorem EPo.ext(S:Sim C H ρ s)(hk:∀ b o,s.heap.get? b=aa o->h'.get? b=aa o)(rv:VR ρ s.heap x v):EPo C ρ s H v x {s with heap:=h',toks:=k}:=⟨ρ,S.ext hk,.ext hk,rv.mono (be _) (eF hk)⟩
def one(vs:ac V):ae V:=match vs with | [v]=>aa v |_=>none
theorem jW(r:VRs ρ h us vs)(e:one vs=aa v):∃ u,us= [u]/\VR ρ h u v:=by
 refine xE (aC5 e rfl λ_ _ _=>rfl) λa z=>?_;subst z;exact cxS e r.a1
def cLen:CF:=lf λvs H=>(one vs).bind λv=>(lst H v).bind λxs=>if xs.length<1000000 then aa (.int xs.length,H) else none
theorem CV.len:CV C r (.builtin "len") cLen:=.of cB λ{A s ρ H us vs v H'} hr S rs e=>by
 refine xEA (aj.mp e) λx hx e=>xEA (aj.mp e) λxs hl e=>xEA (jW rs hx) λu z49 ru=>rwL z49 ?_
 split at e
 ·first |exact aE e |cases e
  refine bZ (cJ S ru hl) λad ys z50 h2 h3=>rwL z50 ?_
  have:=h3.sz
  exact call_len_list h2 (by omega) (rwL this (.tok S (.int _ _)))
 ·first |exact aE e |cases e
def c2F(f:Int->Int->Int)(H:MH)(is:ac Int):ae (V×MH):=match is with | [a,b]=>aa (.int (f a b),H) |_=>none
def c2(f:Int->Int->Int):CF:=lf λvs H=>(Tis vs).bind (c2F f H)
theorem CV.c2(h:∀ {A:ef}{s:ak}{a b:Int}{t u:Tok}{Q:au->ak->Prop},A.handled=none->(∀ h' tk t,(∀ b o,s.heap.get? b=aa o->h'.get? b=aa o)->Q (.int (f a b) t) {s with heap:=h',toks:=tk})->
  ar C.M A (PySem.call (.builtin x) [.int a t,.int b u]) Q NoE s):CV C r (.builtin x) (c2 f):=CV.of cB λ{A s ρ H us vs v H'} hr S rs e=>by
 refine xEA (aj.mp e) λis hi e=>xEA (rs.ints hi) λts h1 h2=>xEE (rO e rfl (λ_=>rfl) λ_ _ _ _=>rfl) λa b z=>?_;subst z
 exact xEE (ts2 h1 h2) λt u z51=>rwL z51 (cxSP e (h hr.1 λh' tk t hk=>.ext S hk (.int _ _)))
def wL:CF:=c2 max
theorem CV.max:CV C r (.builtin "max") wL:=CV.c2 λ{A s a b t u Q} hh k=>max_two_ints hh λh' tk hk=>by
 by_cases q:b>a
 ·rw[aw q];have:=k h' tk u hk;rwa [Int.max_eq_right (oe q)]at this
 ·rw[aq q];have:=k h' tk t hk;rwa [on (mo.mp q)]at this
def lJ:CF:=c2 min
theorem CV.min:CV C r (.builtin "min") lJ:=CV.c2 λ{A s a b t u Q} hh k=>min_two_ints hh λh' tk hk=>by
 by_cases q:b<a
 ·rw[aw q];have:=k h' tk u hk;rwa [Int.min_eq_right (oe q)]at this
 ·rw[aq q];have:=k h' tk t hk;rwa [Int.min_eq_left (mo.mp q)]at this
def cSum:CF:=lf λvs H=>(one vs).bind λv=>(lst H v).bind λxs=>(lS xs).map λis=>(.int is.sum,H)
theorem CV.sum:CV C r (.builtin "sum") cSum:=.of cB λ{A s ρ H us vs v H'} hr S rs e=>by
 refine xEA (aj.mp e) λx hx e=>xEA (aj.mp e) λxs hl e=>xEA (df.mp e) λis hi e=>cxP e (xEA (jW rs hx) λu z52 ru=>rwL z52 ?_)
 refine bZ (cJ S ru hl) λad ys z53 h2 h3=>rwL z53 ?_
 refine xEA (xY h3 hi) λts ht1 ht2=>?_
 have hys:ys=intItems (is.zip ts).toArray:=by
  apply Array.toList_inj.mp
  rw[ht2]
  simp [intItems]
 refine sum_intListG hr.1 (rwR hys h2) λh' tk t' hk=>?_
 have:preSum (numAt (is.zip ts).toArray) (is.zip ts).toArray.size=is.sum:=by
  rw[preSum_eq,List.take_of_length_le (by simp)]
  congr 1
  rw[List.map_fst_zip (Nat.le_of_eq ht1.symm)]
 exact rwL this (.ext S hk (.int _ _))
def cSet:CF:=lf λvs H=>if vs.isEmpty then aa (.ref H.length,H++[.eset]) else none
theorem CV.set:CV C r (.type "set") cSet:=.of eQ λ{A s ρ H us vs v H'} hr S rs e=>by
 split at e
 ·first |exact aE e |cases e
  cases rs with
  |nil=>exact call_set_0 λled=>⟨_,S.alloc _ .eset ⟨rfl,rfl,_,_,Heap.get?_push_size _ rfl,by cases led<;>decide⟩,.alloc _,VR.ref S.last⟩
  |cons _ _=>rename_i h;cases h
 ·first |exact aE e |cases e
theorem Sim.grown(S:Sim C H ρ s)(hk:∀ b o,s.heap.get? b=aa o->h'.get? b=aa o)(hx:IsL h' s.heap.objs.size xs n)(hv:VRs ρ h' xs.toList vs):EPo C ρ s (H++[.list vs]) (.ref H.length) (.ref s.heap.objs.size) {s with heap:=h',toks:=k}:=let g:=S.grow (l:=⟨s.heap.objs.size,s.heap.objs.size,none⟩) (m:=.list vs) hk (bG _) (bG _) rfl ⟨rfl,rfl,xs,n,hx,hv.mono (mi _ _) (.refl _)⟩
 ⟨_,g.1,g.2 _,VR.ref S.last⟩
def lQ(a c:Int):Nat->ac V
 |0=>[]
 |n+1=>.int a::lQ (a+c) c n
theorem aF6(a c:Int)(n:Nat):lQ a c (n+1)= .int a::lQ (a+c) c n:=rfl
theorem tO:∀ (n:Nat) (a c:Int) (us:ac au),us.length=n->(∀ (i:Nat) (u:au),us[i]? =aa u->∃ t,u=Value.int (a+(i:Int)*c) t)->VRs ρ h us (lQ a c n)
 |0,a,c,[],_,_=>VRs.nil
 |0,a,c,_::_,hl,_=>by simp at hl
 |n+1,a,c,[],hl,_=>by simp at hl
 |n+1,a,c,u::us,hl,hu=>by
  refine xE (hu 0 u rfl) λt e=>?_
  simp at e
  refine rwL e (VRs.cons (VR.int _ _) (tO n (a+c) c us (by simpa using hl) λi u h=>(xE (hu (i+1) u (by simpa using h)) λt e=>⟨t,e.trans ?_⟩)))
  congr 1
  rw[nj]
  congr 1
  simp only[Int.natCast_add,Int.add_mul]
  omega
def aE1(vs:ac V)(H:MH):ae (V×MH):=(one vs).bind λv=>match v.rn with
 |some p=>if rOk p.1 p.2.1 p.2.2 then mkL (lQ p.1 p.2.2 (tP p.1 p.2.1 p.2.2)) H else none
 |none=>(lst H v).bind λxs=>mkL xs H
def cList:CF:=lf aE1
theorem aGq(hr:Room r A)(S:Sim C H ρ s)(rs:VRs ρ s.heap us vs)(e:aE1 vs H=aa (v,H')):ar C.M A (PySem.call (.type "list") us) (EPo C ρ s H' v) NoE s:=by
 refine xEA (aj.mp e) λx hx e=>xEA (jW rs hx) λu z54 ru=>rwL z54 ?_
 split at e
 ·rename_i p hp
  split at e
  ·rename_i hok
   refine iW e λhlen e=>?_
   cases e
   refine xAA (w8 hok) λk1 k2 k3=>mT (ru.toRng hp) λa t1 t2 t3 z55 g=>?_;subst z55
   exact call_list_range hr.1 g k2 k1 (by omega) λh' tk acc' c' hk hS hacc=>S.grown hk hS (tO _ _ _ _ (by simpa using hacc.1) λi u hu=>hacc.2 i u (by simpa using hu))
  ·first |exact aE e |cases e
 ·refine xEA (aj.mp e) λxs hl e=>iW e λhlen e=>?_
  cases e
  refine bZ (cJ S ru hl) λad ys z56 z57 h3=>?_;subst z56;obtain⟨o,ho,hc,n,hd⟩:=z57
  exact call_list_seq ad (.inl rfl) ho hc hd (λh' c' hk hD=>S.grown hk hD (h3.mono (be _) (eF hk))) (by exact rwL dh (A12 hlen h3.sz))
theorem CV.list:CV C r (.type "list") cList:=.of eQ aGq
theorem wP(a b n:Nat)(ha:a<=b)(hb:b<=n):Builtin.Slice.sliceAdjust (aa (a:Int)) (aa (b:Int)) 1 (n:Int)=((a:Int),(b:Int)):=by
 unfold Builtin.Slice.sliceAdjust
 simp only[A13,A14,A14,jw]
 congr 1<;>omega
theorem vR(a b:Nat)(ha:a<=b):Builtin.Slice.slicePlaces (a:Int) (b:Int) 1=b-a:=by
 unfold Builtin.Slice.slicePlaces
 simp only[A15,vh,Int.ediv_one]
 split<;>omega
theorem kU{a b:Nat}(hs:s.heap.IsSliceOf sl (.int a u) (.int b u') .none)(ha:a<=b)(hb:b<=n)(h:Q ((a:Int),1,b-a) s):ar (gz prog w) A (Builtin.Slice.sliceApplied (.ref sl) (pure (n:Int))) Q E s:=by
 exact cX (id hs) λos hos hcs hds=>zzB (zzB (hB hos hds (x:=.int a u) rfl (zzB (hB hos hds (x:=.int b u') rfl (zzB (hB hos hds rfl (zzP (zzB (slicePart_none (rwL (aq (by decide)) (zzB (slicePart_int (zzB (slicePart_int (zzB (zzP (rwL (wP a b n ha hb) (rwL (vR a b ha) (zzP h):ar _ _ (pure ((a:Int),(1:Int),Builtin.Slice.slicePlaces (a:Int) (b:Int) 1)) _ _ s):ar _ _ (match Builtin.Slice.sliceAdjust (aa (a:Int)) (aa (b:Int)) 1 (n:Int) with | (lo,hi)=>pure (lo,(1:Int),Builtin.Slice.slicePlaces lo hi 1)) _ _ s)))))))))))))))))
theorem zM(xs:kq au)(a k:Nat):((List.range k).filterMap fun(j:Nat)=>xs[((a:Int)+(j:Int)*1).toNat]?).toArray=((xs.toList.drop a).take k).toArray:=by
 have e:(fun(k:Nat)=>xs[((a:Int)+(k:Int)*1).toNat]?)=λk=>xs[a+k]? :=by
  funext k
  rw[(by omega:((a:Int)+(k:Int)*1).toNat=a+k)]
 rw[e]
 have:=pick_run xs a k
 rw[List.filterMap_map]at this
 have e2:((λx=>xs[x]?)∘λx=>a+x)=λk=>xs[a+k]? :=rfl
 rw[e2]at this
 rw[this]
theorem kG{a b:Nat}(ht:IsTup s.heap t items)(hs:s.heap.IsSliceOf sl (.int a u) (.int b u') .none)(h1:1<=a)(hab:a<=b)(hb:b<=items.size)(h:Q (.ref s.heap.objs.size) {s with heap:=s.heap.push {cls:=.type "tuple",data:=.seq ((items.toList.drop a).take (b-a)).toArray}})(hsz:items.size<=wi):ar (gz prog w) A (px (.ref t) (.ref sl)) Q E s:=by
 have hdrop:sizeOk (.seq ((items.toList.drop a).take (b-a)).toArray):=by
  show((items.toList.drop a).take (b-a)).toArray.size<=wi
  exact rwL tz (rwL List.length_take (rwL jg (rwL Array.length_toList (A16 hsz))))
 refine cX (id hs) λos hos hcs hds=>?_
 delta px
 try with_reducible refine ax ?_
 first |refine zzB (zzP ?_) |skip
 refine zzB (wpAny_sequenceKey ht.typeIs (by decide) ?_)
 refine zzB (dm ht.typeIs om
  (eo om ht.typeIs entry_tuple_getitem ?_ (args_tuple_getitem _ _)))
 show ar _ _ (Builtin.Tuple.tupleItemsOf (.ref t) >>=_) _ _ s
 refine zzB (tupleItemsOf_ ht (zzB (tS ⟨os,hos,hcs⟩ (rwL (aw (by decide)) (zzB (kU hs hab hb ?_))))))
 have hno: ¬(((a:Int)==0 && (1:Int)==1 && (b-a)==items.size)=ag):=by
  have:((a:Int)==0)=af:=by rw[qq];exact A17 h1
  rw[this];simp
 refine(?_:ar _ _ (if ((a:Int)==0 && (1:Int)==1 && (b-a)==items.size)=ag then _ else _) _ _ s)
 rw[aq hno,zM items a (b-a)]
 first
  |exact zzB (dp (zzP ⟨_,rfl,zzP h⟩) hdrop)
  |exact zzB (dp (zzB (zzP (zzP ⟨_,rfl,zzP h⟩))) hdrop)
  |exact zzB (zzB (dp (zzP (zzP ⟨_,rfl,zzP h⟩)) hdrop))
  |exact zzB (zzB (dp (zzP ⟨_,rfl,zzP h⟩) hdrop))
def PV(C:Cx)(r:Nat)(env:Env)(e:ae Expr)(f:EF):Prop:=∀ ⦃A:ef⦄⦃s:ak⦄⦃ρ:ac Lc⦄⦃H:MH⦄⦃lo:Lo⦄⦃Q:EK⦄,Room r A->Sim C H ρ s->Fm C env ρ s lo->f lo H Q->
  ar C.M A (evalPart e env) (bR C ρ s Q) NoE s
theorem PV.none:PV C r env Option.none (eK .none):=λ_ _ _ _ _ _ _ S _ q=>zzP (.here S .none q)
theorem PV.some(h:EV C r env e f):PV C r env (Option.some e) f:=h
def prt:V->ae (ae Int)
 | .none=>aa none
 | .int i=>aa (aa i)
 |_=>none
theorem vQ(r:VR ρ h u v)(e:prt v=aa p):wo u p:=by
 cases v with
 |none=>refine cxS e ?_;cases(show u= .none from r.inv);exact .none
 |int=>exact cxS e (xE r.inv λt z58=>rwL z58 (.int _ _))
 |_=>first |exact aE e |cases e
def xC(vs:ac V)(lo hi st:ae Int):ac V:=(sliceRange (qi lo hi st vs.length).1 (qi lo hi st vs.length).2.1 (qi lo hi st vs.length).2.2).filterMap (vs[·]?)
theorem VRs.pick(rs:VRs ρ h us vs):∀ idx:ac Nat,VRs ρ h (idx.filterMap (us[·]?)) (idx.filterMap (vs[·]?))
 | []=>.nil
 |i::idx=>by
  simp only[List.filterMap_cons]
  cases hv:vs[i]? with
  |none=>
   have:us[i]? =none:=by
    rw[getElem?_eq_none_iff]at hv ⊢;exact rwL rs.length hv
   exact rwL this (rs.pick idx)
  |some v=>
   exact xEA (rs.get hv) λu hu ru=>rwL hu (.cons ru (rs.pick idx))
def slcT(vs:ac V)(lo hi st:ae Int):ae (ac V):=match lo,hi,st with
 |some a,aa b,none=>if 1<=a/\a<=b/\b<=vs.length/\vs.length<1000 then aa ((vs.drop a.toNat).take (b.toNat-a.toNat)) else none
 |some a,none,none=>if 1<=a/\a<=vs.length/\vs.length<1000 then aa (vs.drop a.toNat) else none
 |_,_,_=>none
def slc(v:V)(lo hi st:ae Int)(H:MH):ae (V×MH):=match v.tp with
 |some vs=>(slcT vs lo hi st).map λws=>(.tup ws,H)
 |none=>(lst H v).bind λvs=>if vs.length<1000000/\st≠aa 0 then mkL (xC vs lo hi st) H else none
def oP(f f1 f2 f3:EF):EF:=λlo H Q=>f lo H λv H0=>f1 lo H0 λa H1=>f2 lo H1 λb H2=>f3 lo H2 λc H3=>Lf (prt a) λpa=>Lf (prt b) λpb=>Lf (prt c) λpc=>Lp (slc v pa pb pc H3) Q
theorem aFw{h:lu}{a b:au}(ht:IsTup s.heap t items)(hs:s.heap.IsSliceOf sl a b c)(rs:VRs ρ s.heap items.toList vs)(p1:wo a pa)(p2:wo b pb)(p3:wo c pc)(e:slcT vs pa pb pc=aa ws)(k:∀ ys:ac au,VRs ρ s.heap ys ws->Q (.ref s.heap.objs.size) {s with heap:=s.heap.push {cls:=.type "tuple",data:=.seq ys.toArray}}):ar (gz prog w) A (px (.ref t) (.ref sl)) Q E s:=by
 have hsz:=rs.sz
 unfold slcT at e
 split at e
 ·rename_i a' b'
  split at e
  ·rename_i hb
   refine cyS e λzq=>?_;subst zq
   cases p1;cases p2;cases p3
   refine xE (Int.eq_ofNat_of_zero_le (A18 hb)) λa0 z59=>?_;subst z59
   refine xE (Int.eq_ofNat_of_zero_le (A19 hb)) λb0 z60=>?_;subst z60
   exact kG ht hs (A20 hb) (A21 hb) (A22 hsz hb) (k _ ((rs.drop a0).take (b0-a0))) (by exact rwL dh (A23 hsz hb))
  ·first |exact aE e |cases e
 ·rename_i a'
  split at e
  ·rename_i hb
   refine cyS e λzq=>?_;subst zq
   cases p1;cases p2;cases p3
   refine xE (Int.eq_ofNat_of_zero_le (A24 hb)) λa0 z61=>?_;subst z61
   exact getItem_tuple_from ht hs (A25 hb) (A26 hsz hb) (k _ (rs.drop a0)) (by exact rwL dh (A27 hsz hb))
  ·first |exact aE e |cases e
 ·first |exact aE e |cases e
theorem uI{a b:au}(S1:Sim C H ρ s1)(N1:Nx ρ noW s ρ s1)(r1:VR ρ s1.heap o v)(hsl:s1.heap.IsSliceOf sl a b c)(p1:wo a pa)(p2:wo b pb)(p3:wo c pc)(e:slc v pa pb pc H=aa (v',H')):∃ T id,s1.TypeIs o T/\fq (.type T) "__getitem__" =pure (aa (.builtin id))/\ar C.M A (px o (.ref sl)) (EPo C ρ s H' v') NoE s1:=by
 unfold slc at e
 split at e
 ·rename_i vs hvs
  refine cN (r1.toTup hvs) λt xs n _ z62 g rs=>rwL z62 ?_
  refine xEA (df.mp e) λws e1 e2=>cxP e2 ?_
  have ht:IsTup s1.heap t xs:=⟨_,g,rfl,n,rfl⟩
  exact⟨"tuple",_,ht.typeIs,om.lookup,aFw (h:=s1.heap) ht hsl rs p1 p2 p3 e1 λys hy=>⟨ρ,S1.push _,N1.trans (.push _),.tup (Heap.get?_push_size _ rfl) (hy.mono (be _) (fR _ _))⟩⟩
 ·refine xEA (aj.mp e) λvs hl e=>?_
  split at e
  ·rename_i hlen
   refine iW e λ_ e=>?_
   cases e
   refine bZ (cJ S1 r1 hl) λad xs z63 h2 h3=>rwL z63 ?_
   have hsz:=h3.sz
   refine⟨"list",_,h2.typeIs,list_getitem_lookup,wpAny_getItem_list_slice h2 hsl p1 p2 p3 hlen.2 ((S1.newList ?_).from N1) (by rw[dh];omega)⟩
   unfold slicePick xC
   rw[hsz]
   simpa using h3.pick _
  ·first |exact aE e |cases e
theorem lN{st:ae Expr}(h:EV C r env e f)(h1:PV C r env l f1)(h2:PV C r env u f2)(h3:PV C r env st f3)(hr:Room r A)(S:Sim C H ρ s)(F:Fm C env ρ s lo)(q:oP f f1 f2 f3 lo H Q):ar C.M A (iw e env) (λo s₁=>ar C.M A (iw (.Slice l u st p) env) (λi s₂=>∃ T id,s₂.TypeIs o T/\fq (.type T) "__getitem__" =pure (aa (.builtin id))/\ar C.M A (px o i) (bR C ρ s Q) NoE s₂) NoE s₁) NoE s:=h.run hr S F q λS1 N1 r1 q=>wpAny_Slice (bR.run (h1 hr S1 (F.nx N1) q) λS2 N2 r2 q=>bR.run (h2 hr S2 ((F.nx N1).nx N2) q) λS3 N3 r3 q=>bR.run (h3 hr S3 (((F.nx N1).nx N2).nx N3) q) λ{c s4 ρ4 vc H4} S4 N4 r4 q=>
  q.elim λpa ea q=>q.elim λpb eb q=>q.elim λpc ec q=>q.elim λp es q=>by
   exact bZ (uI (A:=A) (S4.push _) (.push _) ((((r1.nx N2).nx N3).nx N4).mono (be _) (fR _ _)) (Heap.IsSliceOf.new ..) (vQ r2 ea) (vQ r3 eb) (vQ r4 ec) es) λT id k1 k2 k3=>⟨T,id,k1,k2,wmN k3 λ_ _ p=>(p.from (N1.trans (N2.trans (N3.trans N4)))).post q⟩)
theorem mY(h:∃ T id,s₂.TypeIs o T/\fq (.type T) "__getitem__" =pure (aa (.builtin id))/\ar C.M A (px o i) P NoE s₂):ar C.M A (operate ops (px o i)) (λr s₃=>ar C.M A (my e o r >>=λ_=>pure r) P NoE s₃) NoE s₂:=let ⟨_,_,_,_,h₂⟩:=h
 wpAny_operating (dv h₂ (λr s₃ h₃=>zzB (uu (zzP h₃))) λ_ _ x=>x)
theorem EV.slice(h:EV C r env e f)(h1:PV C r env l f1)(h2:PV C r env u f2):EV C r env (.Subscript e (.Slice l u Option.none p) pos) (oP f f1 f2 (eK .none)):=by
 intro A s ρ H lo Q hr S F q
 rw[eval_Subscript]
 refine zzB (dv (lN h h1 h2 PV.none hr S F q) (λo s₁ h₁=>zzB (ax (dv h₁ (λi s₂ h₂=>zzB (dw ?_)) λ_ _ x=>x)))
  λ_ _ x=>x)
 have fin:=mY (e:=e) (ops:=[i,o]) h₂
 refine bZ h₂ λT id hT hl _=>zzB (rwL (uq hT.not_modules) (zzB (ma hT hl ?_)))
 first
  |exact zzP (zzB fin)
  |exact zzB (zzP (zzB fin))
  |exact zzB fin
theorem EV.slice3{st:Expr}(h:EV C r env e f)(h1:PV C r env l f1)(h2:PV C r env u f2)(h3:EV C r env st f3):EV C r env (.Subscript e (.Slice l u (aa st) p) pos) (oP f f1 f2 f3):=by
 intro A s ρ H lo Q hr S F q
 rw[eval_Subscript]
 refine zzB (dv (lN (st:=aa st) h h1 h2 h3 hr S F q) (λo s₁ h₁=>zzB (ax (dv h₁ (λi s₂ h₂=>zzB (dw ?_)) λ_ _ x=>x)))
  λ_ _ x=>x)
 have fin:=mY (e:=e) (ops:=[o,i]) h₂
 refine bZ h₂ λT id hT hl _=>zzB (rwL (uq hT.not_modules) (zzB (ma hT hl ?_)))
 first
  |exact zzP (zzB fin)
  |exact zzB (zzP (zzB fin))
  |exact zzB fin
open PySem PySem.W PyProof.Rows PySem.Calls PyProof
def PyData.kids:kx->ae (dj×ac kx) | .tuple xs=>aa (ag,xs) | .list xs=>aa (af,xs) |_=>none
def inB(H:MH)(a b:V):ae dj:=(rd H eqD a).bind λd=>((rd H eqD b).bind PyData.kids).bind λp=>if PyData.canLayAll0 p.2 && d.canLay0 && decide (d.depth<50) then aa (p.2.any λy=>PyData.eqv y d) else none
def oIn(f:dj->dj):OpF:=λa b H=>(inB H a b).map λt=>(.bool (f t),H)
theorem Room.deep(h:Room r A)(hm:m<50):A.units+1+min n m<cLine:=by
 exact(A28 hm h.2.2:_<9900)
theorem aGv(e:PyData.kids d=aa (t,xs)):d=bif t then .tuple xs else .list xs:=by
 cases d with
 |tuple ys=>refine cxSP e ?_;rfl
 |list ys=>refine cxSP e ?_;rfl
 |_=>first |exact aE e |cases e
theorem OpR.in2(h1:∀ {A:ef}{s:ak}{a b:au}{d:kx}{xs:ac kx}{as bs:ac bz}{Q:au->ak->Prop},vq s.heap b (.tuple xs) bs->vq s.heap a d as->PyData.canLayAll0 xs=ag->d.canLay0=ag->(∀ n,A.units+1+min n d.depth<cLine)->Q (.bool (f (xs.any λy=>PyData.eqv y d))) s->ar C.M A (op a b) Q NoE s)(h2:∀ {A:ef}{s:ak}{a b:au}{d:kx}{xs:ac kx}{as bs:ac bz}{Q:au->ak->Prop},vq s.heap b (.list xs) bs->vq s.heap a d as->PyData.canLayAll0 xs=ag->d.canLay0=ag->(∀ n,A.units+1+min n d.depth<cLine)->Q (.bool (f (xs.any λy=>PyData.eqv y d))) s->ar C.M A (op a b) Q NoE s):OpR C r op (oIn f):=by
 refine OpR.of ?_
 intro A s ρ H a b va vb v H' hr S ra rb e
 refine xEA (df.mp e) λt e e3=>xEA (aj.mp e) λd hd e=>xEA (aj.mp e) λz64 hx e=>?_;obtain⟨tt,xs⟩:=z64
 refine xEA (aj.mp hx) λd2 hd2 hk=>?_
 split at e
 ·rename_i hs
  refine xE (gX S _ ra hd) λas r1=>xE (gX S _ rb hd2) λbs r2=>?_
  rw[aGv hk]at r2
  refine cyS e λzq=>?_;subst zq
  refine cxP e3 ?_
  simp only[Bool.and_eq_true,decide_eq_true_eq]at hs
  cases tt with
  |true=>exact h1 r2 r1 hs.1.1 hs.1.2 (λn=>hr.deep hs.2) (.here S (.bool _))
  |false=>exact h2 r2 r1 hs.1.1 hs.1.2 (λn=>hr.deep hs.2) (.here S (.bool _))
 ·first |exact aE e |cases e
theorem OpR.in_:OpR C r (ji .In) (oIn id):=OpR.in2 (λr2 r1 h1 h2 h3 q=>PySem.SeqAt.in_tuple_reads r2 r1 h1 h2 (h3 _) q) λr2 r1 h1 h2 h3 q=>PySem.SeqAt.in_list_reads r2 r1 h1 h2 (h3 _) q
theorem OpR.notIn:OpR C r (ji .NotIn) (oIn not):=OpR.in2 (λr2 r1 h1 h2 h3 q=>PySem.SeqAt.notIn_tuple_reads r2 r1 h1 h2 (h3 _) q) λr2 r1 h1 h2 h3 q=>PySem.SeqAt.notIn_list_reads r2 r1 h1 h2 (h3 _) q
def V.no:V->dj | .none=>ag |_=>af
theorem VR.noT(r:VR ρ h u v)(e:v.no=ag):u= .none:=by
 cases v with
 |none=>exact r.inv
 |_=>first |exact aE e |cases e
theorem VR.noF(r:VR ρ h u v)(e:v.no=af):u≠ .none:=by
 rintro rfl
 cases v with
 |none=>cases e
 |bool=>exact Value.noConfusion r.inv
 |int=>exact xE r.inv λ_ h=>Value.noConfusion h
 |str=>exact xE r.inv λ_ h=>Value.noConfusion h
 |tup=>exact iI r.inv λ_ _ _ h _=>Value.noConfusion h
 |mat=>exact j7 r.inv λ_ _ _ _ _ _ h _=>Value.noConfusion h
 |ref=>exact xEA r.inv λ_ h _=>Value.noConfusion h
 |dget=>exact iQ r.inv λ_ _ h _=>Value.noConfusion h
 |scon=>exact iQ r.inv λ_ _ h _=>Value.noConfusion h
 |rng=>exact mT r.inv λ_ _ _ _ h _=>Value.noConfusion h
 |raw=>exact Value.noConfusion r.inv
def isV(a b:V)(H:MH):ae dj:=bif b.no then aa a.no else b.rf.bind λj=>bif a.no then aa af else a.rf.bind λi=>if i=j then aa ag else(lst H a).map λ_=>af
theorem aBs{j:Nat}(S:Sim C H ρ s)(hi:ρ[i]? =aa li)(hj:ρ[j]? =aa lj)(h:i≠j):li.a≠lj.a:=λe=>S.disj i j li lj hi hj h li.a (.inl rfl) (.inl e)
def IsR(M:xw)(A:ef)(a b:au)(t:dj)(s:ak):Prop:=∀ Q:au->ak->Prop,(Q (.bool t) s->ar M A (ji .Is a b) Q NoE s)/\(Q (.bool (!t)) s->ar M A (ji .IsNot a b) Q NoE s)
theorem is_ok{a b:au}(S:Sim C H ρ s)(ra:VR ρ s.heap a va)(rb:VR ρ s.heap b vb)(e:isV va vb H=aa t):IsR C.M A a b t s:=by
 unfold isV at e
 cases hb:vb.no with
 |true=>
  rw[hb]at e
  rw[rb.noT hb]
  cases ha:va.no with
  |true=>rw[ha]at e;exact cxS e (rwL (ra.noT ha) (λQ=>⟨λh=>wpAny_is_self rfl h,λh=>wpAny_isNot_self rfl h⟩))
  |false=>rw[ha]at e;exact cxS e (λQ=>⟨λh=>is_none_ne (ra.noF ha) h,λh=>isnot_none_ne (ra.noF ha) h⟩)
 |false=>
  rw[hb]at e
  refine xEA (aj.mp e) λj hj e=>cX (rb.toRef hj) λlj _ z65 g=>rwL z65 ?_
  cases ha:va.no with
  |true=>rw[ha]at e;exact cxS e (rwL (ra.noT ha) (λQ=>⟨λh=>wpAny_is_other rfl (by intro x;cases x) h,λh=>wpAny_isNot_other rfl (by intro x;cases x) h⟩))
  |false=>
   rw[ha]at e
   refine xEA (aj.mp e) λi hi e=>cX (ra.toRef hi) λli _ hli g'=>?_
   split at e
   ·rename_i hij
    refine cxS e ?_
    subst hij
    refine cyS (g▸g') λzq=>?_;subst zq
    exact rwL hli (λQ=>⟨λh=>wpAny_is_ref_self h,λh=>wpAny_isNot_ref_self h⟩)
   ·rename_i hij
    refine xEA (df.mp e) λvs hl e=>rwR e (bZ (cJ S ra hl) λad xs e1 z66 _=>?_);obtain⟨o,ho,hc,_⟩:=z66
    subst hli
    cases e1
    refine xA (S.live g) λz67 _=>xEA z67 λoj hoj _=>?_
    have hc':o.cls≠ .type "tuple" :=by rw[hc];intro x;injection x with x;revert x;decide
    exact λQ=>⟨λh=>wpAny_is_ref_other (aBs S g' g hij) ho hoj hc' h,λh=>wpAny_isNot_ref_other (aBs S g' g hij) ho hoj hc' h⟩
def oIs(f:dj->dj):OpF:=λa b H=>(isV a b H).map λt=>(.bool (f t),H)
theorem OpR.is_:OpR C r (ji .Is) (oIs id):=OpR.of λhr S ra rb e=>by
 exact xEA (df.mp e) λt ht e=>cxP e ((is_ok S ra rb ht _).1 (.here S (.bool _)))
theorem OpR.isNot:OpR C r (ji .IsNot) (oIs not):=OpR.of λhr S ra rb e=>by
 exact xEA (df.mp e) λt ht e=>cxP e ((is_ok S ra rb ht _).2 (.here S (.bool _)))
def eT:ac (Str×bz):=[("__init__",160),("set_seqs",167),("set_seq1",174),("set_seq2",181),("_SequenceMatcher__chain_b",188),("find_longest_match",196),("get_matching_blocks",203),("get_opcodes",210),("get_grouped_opcodes",218)]
structure SMC(C:Cx):Prop where
 cls:∃ nm q bs sn sub col dd k0 k1 k2 k3 k5,C.base.heap.get? dY=aa (excClassObj nm q dY 241 bs [.type "object"] ag sn sub af col dd k0 k1 k2 k3 k5 "object.__new__")
 ns:∃ mN,C.base.heap.Ns 241 mN/\(∀ x∈dI,mN x=none)/\mN "__getattribute__" =none/\mN "__getattr__" =none/\mN "__setattr__" =none/\∀ p∈eT,mN p.1=aa (.ref p.2)
 fn:∀ p∈eT,∃ o,C.base.heap.get? p.2=aa o/\o.cls= .type "function"
theorem tT:∀ x∈dI,fq (.type "object") x=pure none:=by
 intro x hx
 simp only[dI,ez,fg,wj]at hx
 rcases hx with rfl |rfl |rfl |rfl |rfl |rfl |rfl |rfl |rfl |rfl<;>(rw[dt,bp];kernel_rfl)
theorem aB0:∀ p∈eT,∃ y,fq (.type "object") p.1=pure y:=by
 intro p hp
 simp only[eT,ez,fg,wj]at hp
 rcases hp with rfl |rfl |rfl |rfl |rfl |rfl |rfl |rfl |rfl
 ·exact⟨aa (.builtin "object.__init__"),by rw[dt,bp];kernel_rfl⟩
 all_goals exact⟨none,by rw[dt,bp];kernel_rfl⟩
theorem rT{i:Nat}(S:Sim C H ρ s)(hl:ρ[i]? =aa l)(hH:H[i]? =aa (.inst fs)):∃ m,s.heap.InstFk l.a dY m/\Within m dI/\∀ x,OV ρ s.heap (m x) (fs x):=by
 refine mU (S.objs i _ l hH hl) λg ne z77 m h5 h6 h7 h8=>xEAAA z77 λo h1 h2 h3 h4=>?_
 exact⟨m,⟨o,h1,h2,(λc=>by rw[h3];intro q;cases q),.inr ⟨l.d,h4,ne,h5,h6⟩⟩,h7,h8⟩
theorem VR.handed(rv:VR ρ h u v):handedOut u=pure u:=by
 cases rv<;>rfl
def MO.ins:MO->ae (Str->ae V) | .inst fs=>aa fs |_=>none
theorem aDd(e:m.bind MO.ins=aa fs):m=aa (.inst fs):=by
 refine xEA (aj.mp e) λm z78 h2=>rwL z78 ?_
 cases m with
 |inst f=>refine cxS h2 ?_;rfl
 |_=>cases h2
def eG(x:Str)(f:EF):EF:=λlo H Q=>f lo H λa H1=>Lf a.rf λi=>Lf (H1[i]?.bind MO.ins) λfs=>Lf (fs x) λv=>Q v H1
theorem rX{i:Nat}{b:dj}{K:au->ak->Prop}(KK:SMC C)(hx:x∈dI)(S:Sim C H ρ s)(hl:ρ[i]? =aa l)(hH:H[i]? =aa (.inst fs))(hv:fs x=aa v)(k:∀ u n,VR ρ s.heap u v->K u {s with toks:=n}):ar C.M A (vi (.ref l.a) x b) K E s:=by
 refine cX (rT S hl hH) λm I W hm=>gC KK.cls λnm q bs sn sub col dd k0 k1 k2 k3 k5 hC=>qO KK.ns λmN hn hna hng hga hsa hme=>(hm x).elim hv λu hmx ru=>?_
 obtain⟨hh,g,d,t,os⟩:=s
 exact load_attrFk (S.keep _ _ hC) (j9 hn S.keep) hng (hna x hx) (tT x hx) I hmx (VR.handed ru) (k u _ ru)
theorem dM(hb:jp e x env (iw e env)=iw e env)(h:ar (gz prog w) A (iw e env) (λo s1=>ar (gz prog w) A (vi o x ag) Q E s1) E s):ar (gz prog w) A (iw (.Attribute e x pos) env) Q E s:=by
 show ar (gz prog w) A (do
  let o<-jp e x env (iw e env)
  xd pos.atName
  let r<-sj [o] (vi o x ag)
  my e o r
  pure r) _ _ s
 exact rwL hb (zzB (dv h (λo s1 h1=>(zzB (dw (zzB (ax (dv h1 (λy s2 p=>(zzB (uu (zzP p)))) λ_ _ z=>z)))))) λ_ _ z=>z))
theorem EV.attr(K:SMC C)(hx:x∈dI)(h:EV C r env e f)(hb:jp e x env (iw e env)=iw e env)(ht:∀ o y,my e o y=pure ()):EV C r env (.Attribute e x pos) (eG x f):=λ_ _ _ _ _ _ hr S F q=>dM hb (h.run hr S F q λS1 N1 r1 q=>q.elim λi hi q=>q.elim λfs hf q=>q.elim λv hv q=>by
  refine cX (r1.toRef hi) λl _ z79 g=>rwL z79 ?_
  exact rX K hx S1 g (aDd hf) hv λu n ru=>⟨S1.toks n,N1.trans (.toks n),ru,q⟩)
def fput(fs:Str->ae V)(x:Str)(v:V):Str->ae V:=λy=>if y=x then aa v else fs y
theorem qX(K:SMC C)(hx:x∈dI)(S:Sim C H ρ s)(hl:ρ[i]? =aa l)(hH:H[i]? =aa (.inst fs))(rv:VR ρ s.heap u v):ar C.M A (setAttr (.ref l.a) x u) (λ_ s'=>Sim C (H.set i (.inst (fput fs x v))) ρ s'/\Nx ρ W s ρ s') NoE s:=by
 refine cX (rT S hl hH) λm I Wi hm=>gC K.cls λnm q bs sn sub col dd k0 k1 k2 k3 k5 hC=>qO K.ns λmN hn hna hng hga hsa hme=>xAAAEA (S.objs i _ l hH hl) λg ne z80 _ z81 _=>xEAAA z80 λo h1 h2 h3 h4=>?_;obtain⟨oD,esD,epD,hoD,hdD,_⟩:=z81
 have hbase:C.base.heap.get? l.a=none:=by
  rcases S.ro i l hl with ⟨vs,e⟩ |e
  ·cases (hH▸e)
  ·exact e.1
 have hxC:l.a≠dY:=by intro e;rw[e,hC]at hbase;exact cyM hbase
 obtain⟨hh,gg,d,t,os⟩:=s
 refine store_attrFk PySem.F.store_object (S.keep _ _ hC) (j9 hn S.keep) hsa (hna x hx) (tT x hx) hxC I (λh' tk' I' hk hsame=>?_) Wi (by rw[dh];decide)
 have kk:∀ b ob,¬l.has b->hh.get? b=aa ob->h'.get? b=aa ob:=λb ob hb e=>hk b ob (λz=>hb (.inl z)) (λo₀ d' e₀ ed=>by
  obtain rfl:=Option.some.inj (h1.symm.trans e₀);obtain rfl:=Option.some.inj (h4.symm.trans ed);exact λz=>hb (.inr z)) e
 have im:Imm hh h':=λb ob e i=>kk b ob (λz=>by
  rcases z with rfl |rfl
  ·refine cyS (h1▸e) λzq=>?_;subst zq;simp [bB,h3]at i
  ·refine cyS (hoD▸e) λzq=>?_;subst zq;simp [bB,hdD]at i) e
 refine aAn (hsame o h1) λo₁ e₁ c₁ dt₁ _ dk₁=>xEAAA I' λo' e' c' _ hd'=>?_
 obtain rfl:=Option.some.inj (e₁.symm.trans e')
 have hd1:=dk₁ l.d h4
 rcases hd' with ⟨hn0,_⟩ |⟨d',hd',ne',hns',hex'⟩
 ·exact cyM (rwR hd1 hn0)
 obtain rfl:=Option.some.inj (hd1.symm.trans hd')
 have al:∀ b ob,hh.get? b=aa ob->∃ ob',h'.get? b=aa ob':=λb ob e=>by
  by_cases z:l.has b
  ·rcases z with rfl |rfl
   ·exact⟨_,e₁⟩
   ·exact iI hns' λo2 _ _ e2 _=>⟨o2,e2⟩
  ·exact⟨ob,kk b ob z e⟩
 refine⟨S.upd (s':=⟨h',gg,d,tk',os⟩) hl hH (by intro _ h;cases h) (λb ob e hb=>kk b ob hb e) im rfl rfl ⟨g,ne,⟨o₁,e₁,c₁.trans h2,dt₁.trans h3,hd1⟩,_,hns',hex',?_,λy=>?_⟩ (by intro _ h;cases h),
  ⟨be _,λl hl=>by simp at hl,λb ob e ho _=>kk b ob (λz=>ho ⟨l,dc hl,z⟩) e,im,al⟩⟩
 ·intro y hy
  by_cases z:y=x
  ·exact rwL z hx
  ·exact Wi y (by simpa [z] using hy)
 ·delta fput
  by_cases z:y=x
  ·simp only[z,vh];exact rv.mono (be _) im
  ·simp only[z,jw];exact(hm y).mono (be _) im
def eP(x:Str)(f:EF):AF:=λv lo H Q=>f lo H λa H1=>Lf a.rf λi=>Lf (H1[i]?.bind MO.ins) λfs=>Q lo (H1.set i (.inst (fput fs x v)))
theorem AV.attr(K:SMC C)(hx:x∈dI)(h:EV C r env e f):AV C r env (.Attribute e x pos) (eP x f):=by
 intro A s ρ H lo u v Q hr S F rv q
 rw[assign_Attribute]
 exact zzB (ax (h.run hr S F q λS1 N1 r1 q=>q.elim λi hi q=>q.elim λfs hf q=>by
  refine cX (r1.toRef hi) λl _ z82 g=>rwL z82 ?_
  exact zzB (dw (zzB (ax (wmN (qX (W:=noW) K hx S1 g (aDd hf) (rv.nx N1)) λ_ s2 p=>(wpAny_release ⟨p.1,(N1.trans p.2).wr,F.nx (N1.trans p.2),q⟩)))))))
def cS(g:CF)(f:EF)(fs:EFs):EF:=λlo H Q=>f lo H λa H1=>Lf a.rf λi=>(∃ ff,H1[i]? =aa (.inst ff))/\fs lo H1 λvs H2=>g (.ref i::vs) H2 Q
theorem zQ:∀ p∈eT,p.1∉dI:=by decide+kernel
theorem EV.meth{name:Str}(K:SMC C)(hp:(name,fa)∈eT)(hf:CV C r (.ref fa) g)(ho:EV C r env o f)(ha:EVs C r env es fs)(hfl:mC env es)(sh:eZ env o name apos pos es):EV C r env (.Call (.Attribute o name apos) es [] pos) (cS g f fs):=λ_ _ _ _ _ _ hr S F q=>eV (P:=λ_ _=>vx) sh.base sh.few sh.line (ho.run hr S F q λ{x s1 ρ1 v1 H1} S1 N1 r1 q pl=>q.elim λi hi q=>by
  refine cX (r1.toRef hi) λl _ hl g'=>rwL hl (xA q λz83 q=>?_);obtain⟨ff,hH⟩:=z83
  refine cX (rT S1 g' hH) λm I W hm=>gC K.cls λnm q' bs sn sub col dd k0 k1 k2 k3 k5 hC=>qO K.ns λmN hn hna hng hga hsa hme=>xEA (K.fn _ hp) λof hof hfc=>xE (aB0 _ hp) λy hy=>?_
  have hsh:m name=Option.none:=by
   cases e:m name with
   |none=>rfl
   |some z=>exact ba (W name (by exact rwL e (λq=>(cyM q)))) (zQ _ hp)
  obtain⟨hh,gg,d,t,os⟩:=s1
  exact method_ofFk (S1.keep _ _ hC) (j9 hn S1.keep) hng hga (hme _ hp) (S1.keep _ _ hof) hfc hy I hsh (wmN (E:=NoE) (l7 (pos:=pos) hf ha hfl hr S1 (F.nx N1) (.cons (VR.ref g') .nil) q) λ_ _ p=>p.from N1))
theorem Sim.iterX(S:Sim C H ρ s)(hk:∀ b o,¬X b->s.heap.get? b=aa o->h'.get? b=aa o)(hi:∀ a o,X a->s.heap.get? a=aa o->¬bB o)(hX:∀ b,X b->¬Own ρ b/\C.base.heap.get? b=none):Sim C H ρ {s with heap:=h',toks:=k}/\NxI ρ X s ρ {s with heap:=h',toks:=k}:=by
 have im:=λb o e i=>Classical.byCases (λq:X b=>ba i (hi b o q e)) λq=>hk b o q e
 refine⟨S.same (λb o e q=>hk b o (λz=>(Or.elim q (λq=>((hX b z).1 q)) λq=>?_)) e) im (λ_ _ e=>e) rfl S.bare,⟨be _,λl hl=>by simp at hl,λb o e _ q=>hk b o q e,im,λb o e q=>⟨o,hk b o q e⟩⟩⟩
 ·cases (((hX b z).2)▸q)
inductive EnR(ρ:ac Lc)(h:lu)(it:Nat×Nat):au->(bz->Prop)->Prop
 |mk {e t l old} (h1:ρ[it.1]? =aa l) (h2:e≠t) (h3:IsEnum h e t it.2 old) (h4:h.IsListIter t l.a it.2):EnR ρ h it (.ref e) (λb=>b=e\/b=t)
inductive EnM(ρ:ac Lc)(h:lu)(it:Nat×Nat):au->au->(bz->Prop)->Prop
 |mk {e t l item a} (h1:ρ[it.1]? =aa l) (h2:e≠t) (h3:IsEnumOut h e t it.2 item a) (h4:h.IsListIter t l.a it.2):EnM ρ h it (.ref a) (.ref e) (λb=>b=e\/b=t)
theorem aEd{h:lu}{o2:Obj}(h1:h.get? e=aa o1)(h2:h.get? t=aa o2)(i1: ¬bB o1)(i2: ¬bB o2):∀ b o,(b=e\/b=t)->h.get? b=aa o->¬bB o:=λb o q e'=>by
 rcases q with rfl |rfl
 ·rw[h1]at e';exact cxS e' i1
 ·rw[h2]at e';exact cxS e' i2
theorem rK(h4:o.cls= .type "list_iterator")(h5:o.data= .fields #[x,y]): ¬bB o:=by delta bB;rw[h5];simp [h4]
def nG(C:Cx):ItK C where
 σ:=Nat×Nat
 nx:=λit H Q=>Lf (lst H (.ref it.1)) λvs=>Q ((vs[it.2]?).map λv=>(.tup [.int it.2,v],(it.1,it.2+1))) H
 rel:=λρ s it x X=>EnR ρ s.heap it x X
 mid:=λρ s it u x X=>EnM ρ s.heap it u x X
 tg:=λt=>∃ elts k pos,t= .Tuple elts k pos
 need:=0
 mono:=λR p i hk=>by
  cases R with
  |mk h1 h2 h3 h4=>refine xEA h4 λo h4 h5=>?_;exact .mk (aQ p h1) h2 (hk _ _ (.inl rfl) h3) ⟨o,hk _ _ (.inr rfl) h4,h5⟩
 alive:=λR b hb=>by
  cases R with
  |mk h1 h2 h3 h4=>
   refine xEA h4 λo h4 h5=>?_
   rcases hb with rfl |rfl
   ·exact⟨_,h3⟩
   ·exact⟨_,h4⟩
 next:=λ{A s ρ H it x X Q r} _ hr S R hX q=>by
  refine q.elim λvs hl q=>?_
  cases R with
  |mk h1 h2 h3 hit=>
  refine bZ (cJ S (.ref h1) hl) λad xs q1 q2 q3=>?_
  cases q1
  have hi:∀ b o,_->s.heap.get? b=aa o->¬bB o:=let ⟨o,h4,h5,h6⟩:=hit;aEd h3 h4 (by simp [bB]) (rK h5 h6)
  cases hv:vs[it.2]? with
  |some v=>
   rw[hv]at q
   refine xEA (q3.get hv) λu hu ru=>?_
   refine wpAny_pyNext_enum_item h3 hit q2 (by simpa using hu) h2 λh' a1 a2 a3 a4 a5=>?_
   have st:=S.iterX (h':=h') (k:=s.toks+1) (λb o hb e'=>a5 b o (λz=>hb (.inl z)) (λz=>hb (.inr z)) e') hi hX
   exact .item (it':=(it.1,it.2+1)) st.1 st.2 (.tup a3 (.cons (.int _ _) (.cons (ru.mono (be _) st.2.imm) .nil))) (.mk h1 h2 a1 a2) q
  |none=>
   rw[hv]at q
   refine wpAny_pyNext_enum_end hr.1 h3 hit q2 (Array.getElem?_eq_none (by rw[q3.sz];exact getElem?_eq_none_iff.mp hv)) λh' he=>?_
   have st:=S.iterX (h':=h') (k:=s.toks) (λb o hb e'=>he b o (λz=>hb (.inr z)) e') hi hX
   exact .done st.1 st.2 q
 lgo:=λ{A s ρ H it x X u target r} hr S M tg hX=>by
  refine vC tg λelts k pos z68=>?_;clear tg;subst z68
  cases M with
  |mk h1 h2 h3 hit=>
  have hi:∀ b o,_->s.heap.get? b=aa o->¬bB o:=let ⟨o,h4,h5,h6⟩:=hit;aEd h3 h4 (by simp [bB]) (rK h5 h6)
  refine wpAny_letOwnedTupleGo_enum h3 λh' a1 hs=>?_
  have st:=S.iterX (h':=h') (k:=s.toks) (λb o hb e'=>(hs.2 b (λz=>hb (.inl z))).trans e') hi hX
  refine xEA hit λo h4 h5=>?_
  exact⟨st.1,st.2,.mk h1 h2 a1 ⟨o,(hs.2 _ (Ne.symm h2)).trans h4,h5⟩⟩
theorem IV.enum(h:EV C r env e f)(hg:Glo C "enumerate" (.type "enumerate"))(hk:env.kindOf "enumerate" =aa .globalImplicit)(hfl:mC env [e])(he:di [e] env=(af,iw e env)::di [] env):IV (nG C) r env (.Call (.Name "enumerate" np) [e] [] pos) (iL f):=λA s ρ H lo Q hr S F q=>mr (lD hg hk (by decide) S F (ot (by rw[hfl.2];rfl) eQ
  (wmN (kO (Q:=λvs H1=>Lf (one vs) λv=>Lf v.rf λi=>(∃ vs,lst H1 (.ref i)=aa vs)/\Q (i,0) H1) (EVs.cons h EVs.nil he) hfl hr S F q) λa s1 p=>by
  obtain⟨ps,kw⟩:=a
  obtain⟨hkw,S1,N1,rs,q⟩:=p
  subst hkw
  refine⟨S1.keep,q.elim λv hv q=>q.elim λi hi q=>(xEA (jW rs hv) λu hu r1=>?_)⟩
  subst hu
  refine cX (r1.toRef hi) λl z69 z70 g=>?_;subst z69;subst z70
  refine xA q λz71 q=>?_;obtain⟨vs,hl⟩:=z71
  refine bZ (cJ S1 r1 hl) λad xs e q2 q3=>?_
  cases e
  refine call_enumerate_list q2 λh' g1 g2 g3 g4=>wpAny_pyIter_enum g1 ?_
  have fr1:s1.heap.get? (s1.heap.objs.size+1)=none:=by
   cases e':s1.heap.get? (s1.heap.objs.size+1) with
   |none=>rfl
   |some o=>exact ba (Heap.lt_size e') (Nat.not_lt.mpr (lw _))
  exact⟨S1.ext g4,N1.trans (.ext g4),.mk g (Nat.succ_ne_self _) g1 g2,λb hb=>by
   rcases hb with rfl |rfl
   ·exact c7 N1 S1 fr1
   ·exact c7 N1 S1 (bG _),q⟩)))
def MO.dct:MO->ae (Nat×(Int->ae V)) | .dict n f=>aa (n,f) |_=>none
theorem wG(e:m.bind MO.dct=aa p):m=aa (.dict p.1 p.2):=by
 refine xEA (aj.mp e) λm z72 h2=>rwL z72 ?_
 cases m with
 |dict n f=>refine cxSP h2 ?_;rfl
 |_=>cases h2
theorem q9{i:Nat}(S:Sim C H ρ s)(hl:ρ[i]? =aa l)(hH:H[i]? =aa (.dict n f))(hb:∃ o,C.base.heap.get? mz=aa o):(l.a==mz)=af:=by
 rcases S.ro i l hl with ⟨vs,e⟩ |e
 ·cases (hH▸e)
 ·rw[qq]
  refine λq=>(xE hb λo ho=>?_)
  rw[q,ho]at e
  cases e.1
structure DctAt(C:Cx)(H:MH)(ρ:ac Lc)(s:ak)(i:Nat)(l:Lc)(n:Nat)(f:Int->ae V)(kvs:ac (Int×au)):Prop where
 g:ρ[i]? =aa l
 d:l.d=l.a
 gn:l.g=none
 h:H[i]? =aa (.dict n f)
 x:s.heap.DictOf (si C.prog C.w) l.a kvs
 le:kvs.length<=n
 f:∀ k,OV ρ s.heap (ox kvs k) (f k)
theorem sO(S:Sim C H ρ s)(g:ρ[i]? =aa l)(h:H[i]? =aa (.dict n f)):∃ kvs,DctAt C H ρ s i l n f kvs:=let ⟨h1,h2,kvs,hx,hle,hf⟩:=S.objs i _ l h g;⟨kvs,g,h1,h2,h,hx,hle,hf⟩
theorem pX{id:pj}{K:au->ak->Prop}(ho:EV C r env o f)(sh:eZ env o name apos pos args)(slot:Slot "dict" name id)(hty:qw (.builtin id)=pure (.type "method_descriptor"))(hr:Room r A)(S:Sim C H ρ s)(F:Fm C env ρ s lo)(e:f lo H Q)(hQ:∀ v H1,Q v H1->∃ i n g,v.rf=aa i/\H1[i]? =aa (.dict n g))(h:∀ {s1 ρ1 l i n g H1},Sim C H1 ρ1 s1->Nx ρ noW s ρ1 s1->ρ1[i]? =aa l->H1[i]? =aa (.dict n g)->Q (.ref i) H1->ar C.M A (xo pos (.builtin id) [.ref l.a] (ky pos (di args env)) []) K NoE s1):ar C.M A (iw (.Call (.Attribute o name apos) args [] pos) env) K NoE s:=eV (P:=λ_ _=>vx) sh.base sh.few sh.line (ho.run hr S F e λS1 N1 r1 q pl=>by
  refine iI (hQ _ _ q) λi n gg hi hv=>cX (r1.toRef hi) λl hv' z73 g=>?_;subst z73
  subst hv'
  refine xE (sO S1 g hv) λkvs D=>gD D.x λob es ep hob z74 _=>xAA z74 λhc1 hc2 hc3=>?_
  exact getMethod_builtin ⟨_,hob,hc1⟩ PySem.F.plainAttrs_dict slot hty (λa e=>by cases e;exact⟨_,hob,hc2⟩) (h S1 N1 g hv q))
def eD2(f f1 f2:EF)(k:Nat->Nat->(Int->ae V)->Int->V->MH->EK->Prop):EF:=λlo H Q=>f lo H λa H1=>Lf a.rf λi=>(∃ n g,H1[i]? =aa (.dict n g))/\f1 lo H1 λb H2=>Lf (Ti b) λx=>f2 lo H2 λv H3=>Lf (H3[i]?.bind MO.dct) λp=>k i p.1 p.2 x v H3 Q
def yR(f f1 f2:EF):EF:=eD2 f f1 f2 λi n g x v H3 Q=>n<1000000/\match g x with |some v'=>Q v' H3 |none=>Q v (H3.set i (.dict (n+1) (dput g x v)))
theorem OV.same(o:OV ρ h u w):(u=none/\w=none)\/∃ x v,u=aa x/\w=aa v/\VR ρ h x v:=by
 cases u<;>cases w
 ·exact .inl ⟨rfl,rfl⟩
 ·exact False.elim o
 ·exact False.elim o
 ·exact .inr ⟨_,_,rfl,rfl,o⟩
theorem EV.setdefault(hb:∃ o,C.base.heap.get? mz=aa o)(ho:EV C r env o f)(h1:EV C r env e1 f1)(h2:EV C r env e2 f2)(sh:eZ env o "setdefault" apos pos [e1,e2])(ht:ky pos (di [e1,e2] env)= [(af,iw e1 env),(af,iw e2 env)]):EV C r env (.Call (.Attribute o "setdefault" apos) [e1,e2] [] pos) (yR f f1 f2):=λ_ _ _ _ _ _ hr S F q=>pX ho sh PySem.F.slot_dict_setdefault PySem.F.type_dict_setdefault hr S F q (λv H1 q=>q.elim λi hi q=>xEE q.1 λn g h=>⟨i,n,g,hi,h⟩) λ{s1 ρ1 l i n g H1} S1 N1 hl hw q=>by
  refine rwL ht (method2_meetsIn PySem.F.slot_dict_setdefault PySem.F.entry_dict_setdefault (h1.run hr S1 (F.nx N1) q.2 λ{x s2 ρ2 v2 H2} S2 N2 r2 q=>q.elim λk hk q=>h2.run hr S2 ((F.nx N1).nx N2) q λ{b s3 ρ3 v3 H3} S3 N3 r3 q=>q.elim λp hp q=>(xE (sO S3 (aQ (N2.trans N3).pre hl) (wG hp)) λkvs D=>?_)))
  have N:=N1.trans (N2.trans N3)
  refine xE (r2.tiE hk) λt z75=>?_;subst z75
  refine xA q λhn q=>⟨D.x.mapOf.typeIs,PySem.F.args_dict_setdefault_3 _ _ _,_,kt_meets_setdefault (si C.prog C.w) l.a (qu _ _ _ _) (q9 S3 D.g D.h hb) b,kvs,D.x,by exact rwL dh (A29 hn D.le),λu hu=>?_,λhu h' hx' hs=>?_⟩
  ·rcases(D.f k).same with ⟨e,_⟩ |⟨x',v',e,e',rv⟩
   ·exact cyM (rwR hu e)
   ·refine cyS (hu▸e) λzq=>?_;subst zq;rw[e']at q;exact bR.from N (.tok S3 rv q)
  ·rcases(D.f k).same with ⟨_,e'⟩ |⟨x',v',e,_⟩
   ·rw[e']at q
    have st:=S3.setD (tk:=s3.toks+1) D.g D.h D.d D.gn D.x D.le D.f r3 hx' hs
    exact bR.from N ⟨st.1,st.2 _,r3.nx (st.2 noW),q⟩
   ·cases (hu▸e)
def eGet(f f1 f2:EF):EF:=eD2 f f1 f2 λi n g x v H3 Q=>Q ((g x).getD v) H3
theorem EV.get(hb:∃ o,C.base.heap.get? mz=aa o)(ho:EV C r env o f)(h1:EV C r env e1 f1)(h2:EV C r env e2 f2)(sh:eZ env o "get" apos pos [e1,e2])(ht:ky pos (di [e1,e2] env)= [(af,iw e1 env),(af,iw e2 env)]):EV C r env (.Call (.Attribute o "get" apos) [e1,e2] [] pos) (eGet f f1 f2):=λ_ _ _ _ _ _ hr S F q=>pX ho sh PySem.F.slot_dict_get PySem.F.type_dict_get hr S F q (λv H1 q=>q.elim λi hi q=>xEE q.1 λn g h=>⟨i,n,g,hi,h⟩) λ{s1 ρ1 l i n g H1} S1 N1 hl hw q=>by
  refine rwL ht (wpAny_dict_get2 (knd:=si C.prog C.w) (q9 S1 hl hw hb) (h1.run hr S1 (F.nx N1) q.2 λ{x s2 ρ2 v2 H2} S2 N2 r2 q=>q.elim λk hk q=>h2.run hr S2 ((F.nx N1).nx N2) q λ{b s3 ρ3 v3 H3} S3 N3 r3 q=>q.elim λp hp q=>(xE (sO S3 (aQ (N2.trans N3).pre hl) (wG hp)) λkvs D=>?_)))
  have N:=N1.trans (N2.trans N3)
  refine xE (r2.tiE hk) λt z76=>rwL z76 ?_
  dsimp only at q
  refine⟨k,_,qu _ _ _ _,D.x.mapOf,?_⟩
  rcases(D.f k).same with ⟨e,e'⟩ |⟨x',v',e,e',rv⟩
  ·rw[e];rw[e']at q;exact bR.from N (.tok S3 r3 q)
  ·rw[e];rw[e']at q;exact bR.from N (.tok S3 rv q)
theorem xM:Slot "method_descriptor" "__get__" "method_descriptor.__get__" :=.of (owner:="method_descriptor") (n:="__get__") (by rw[dt,bp];kernel_rfl) (by decide+kernel) (by decide+kernel) (by decide+kernel)
  (by first |exact .inl (by decide+kernel) |exact .inr (by decide+kernel)) (by rw[ir];kernel_rfl)
theorem aCj:pd qj "method_descriptor.__get__" =aa Builtin.«method_descriptor.__get__»:=lh ⋯
theorem aGm(a b c:au):po "method_descriptor.__get__" ⟨[a,b,c],[]⟩:=by delta po;kernel_rfl
theorem aA8:nq (.type "dict") (.type "dict")=pure ag:=by rw[ir];kernel_rfl
theorem aFu:nq (.type "set") (.type "set")=pure ag:=by rw[ir];kernel_rfl
theorem aF7:(kfb_private% "ownerAndName") "dict.get" =("dict","get"):=by first |decide+kernel |kernel_rfl
theorem aF8:(kfb_private% "ownerAndName") "set.__contains__" =("set","__contains__"):=by first |decide+kernel |kernel_rfl
theorem aBp{a:bz}{id:pj}(h1:Manifest.toldItsClass.contains id=af)(ho:(kfb_private% "ownerAndName") id=(T,nm))(hsub:nq (.type T) (.type T)=pure ag)(hT:s.TypeIs (.ref a) T)(h:P (.done (.ret (.ref s.heap.objs.size))) {s with heap:=s.heap.push {cls:=.type "builtin_function_or_method",data:=.fields #[.builtin id,.ref a]}}):
  ar M A (Builtin.«method_descriptor.__get__» ⟨[.builtin id,.ref a,.type T],[]⟩) P E s:=by
 refine zzB (ja (a:=(.builtin id,aa (.ref a),aa (.type T))) (by first |rfl |kernel_rfl) ?_)
 simp only[h1,jd,jw]
 refine zzB (zzB (ja (by show(match (kfb_private% "ownerAndName") id with | (owner,name)=>pure ((name:Str),Value.type owner))=_;rw[ho]) ?_))
 exact zzB (lq hT hsub (zzP (zzB (dp (zzP h)))))
theorem aCi:fq (.type "method_descriptor") "__get__" =pure (aa (.builtin "method_descriptor.__get__")):=by rw[dt,bp];kernel_rfl
theorem aCh:fq (.type "method_descriptor") "__set__" =pure none:=by rw[dt,bp];kernel_rfl
theorem aCk:fq (.type "method_descriptor") "__delete__" =pure none:=by rw[dt,bp];kernel_rfl
theorem xN{a:bz}{id:pj}(h1:Manifest.toldItsClass.contains id=af)(ho:(kfb_private% "ownerAndName") id=(T,nm))(hsub:nq (.type T) (.type T)=pure ag)(hty:qw (.builtin id)=pure (.type "method_descriptor"))(hT:s.TypeIs (.ref a) T)(h:R (.ok (.ret (.ref s.heap.objs.size))) {s with heap:=s.heap.push {cls:=.type "builtin_function_or_method",data:=.fields #[.builtin id,.ref a]}}):
  kr (gz prog w) A (.call (.builtin "method_descriptor.__get__") ⟨[.builtin id,.ref a,.type T],[]⟩) R s:=by
 exact jh xM.plain aCj (xM.check _ _ _ _ _ _ _ _ hty (aGm _ _ _) (aBp h1 ho hsub hT h))
theorem jS:pd qj "dict.__getattribute__" =aa Builtin.«object.__getattribute__»:=uv (id':="object.__getattribute__") ⋯ (by decide+kernel) (by decide+kernel) ⋯
theorem lk_get:fq (.type "dict") "get" =pure (aa (.builtin "dict.get")):=by rw[dt,bp];kernel_rfl
set_option maxHeartbeats 1000000 in
theorem jL(a:bz)(es:kq wq)(k:Nat)(u:Tok):Meets (Builtin.«object.__getattribute__» ⟨[.ref a,.str "get" u],[]⟩) (λA R s=>s.heap.get? a=aa {cls:=.type "dict",dict:=none,data:=.dict es k,slots:= #[]}/\R (.ok (.ret (.ref s.heap.objs.size))) {s with heap:=s.heap.push {cls:=.type "builtin_function_or_method",data:=.fields #[.builtin "dict.get",.ref a]}}):=Meets.of_wp λprog w A R s hs=>by
  obtain⟨hp,g,d,tk,os⟩:=s
  obtain⟨hx,hs⟩:=hs
  have hT:(⟨hp,g,d,tk,os⟩:ak).TypeIs (.ref a) "dict" :=⟨_,hx,rfl⟩
  have f1:=lk_get
  have f2:=PySem.F.type_dict_get
  have f3:=aCi
  have f4:=aCh
  have f5:=aCk
  repeat (any_goals (first |assumption |wp_step))
  exact xN (by decide+kernel) aF7 aA8 f2 hT (zzP ⟨_,rfl,hs⟩)
set_option maxHeartbeats 1000000 in
theorem lF{a:bz}{b:dj}(hx:s.heap.get? a=aa {cls:=.type "dict",dict:=none,data:=.dict es k,slots:= #[]})(h:Q (.ref s.heap.objs.size) {s with heap:=s.heap.push {cls:=.type "builtin_function_or_method",data:=.fields #[.builtin "dict.get",.ref a]},toks:=s.toks+1}):
  ar (gz prog w) A (vi (.ref a) "get" b) Q E s:=by
 obtain⟨hp,g,d,tk,os⟩:=s
 have hT:∀ tk',(⟨hp,g,d,tk',os⟩:ak).TypeIs (.ref a) "dict" :=λ_=>⟨_,hx,rfl⟩
 have f3:=F.slot_dict_getattribute.lookup
 have f4:=F.slot_dict_getattribute.bind (.ref a)
 repeat (any_goals (first |assumption |exact hT _ | ((with_reducible show ar _ _ (call (Value.builtin "dict.__getattribute__") _ _) _ _ _);refine wa F.slot_dict_getattribute (hT _) jS (F.args_dict_getattribute_2 _ _) (jL a es k _) ⟨hx,?_⟩) |wp_step))
 have hb:(b && onTheHeap (Value.builtin "dict.__getattribute__"))=af:=by cases b<;>rfl
 delta boundAndCalled
 repeat (any_goals (first |assumption |exact hT _ | ((with_reducible refine(?_:ar _ _ (call (Value.builtin "dict.__getattribute__") _ _) _ _ _));refine wa F.slot_dict_getattribute (hT _) jS (F.args_dict_getattribute_2 _ _) (jL a es k _) ⟨hx,?_⟩) |wp_step))
 exact zzP h
theorem kJ:pd qj "set.__getattribute__" =aa Builtin.«object.__getattribute__»:=uv (id':="object.__getattribute__") ⋯ (by decide+kernel) (by decide+kernel) ⋯
theorem lk_con:fq (.type "set") "__contains__" =pure (aa (.builtin "set.__contains__")):=by rw[dt,bp];kernel_rfl
set_option maxHeartbeats 1000000 in
theorem kC(a:bz)(k:Nat)(st:SetTable)(u:Tok):Meets (Builtin.«object.__getattribute__» ⟨[.ref a,.str "__contains__" u],[]⟩) (λA R s=>s.heap.get? a=aa {cls:=.type "set",dict:=none,data:=.set #[] k st,slots:= #[]}/\R (.ok (.ret (.ref s.heap.objs.size))) {s with heap:=s.heap.push {cls:=.type "builtin_function_or_method",data:=.fields #[.builtin "set.__contains__",.ref a]}}):=Meets.of_wp λprog w A R s hs=>by
  obtain⟨hp,g,d,tk,os⟩:=s
  obtain⟨hx,hs⟩:=hs
  have hT:(⟨hp,g,d,tk,os⟩:ak).TypeIs (.ref a) "set" :=⟨_,hx,rfl⟩
  have f1:=lk_con
  have f2:=PySem.F.type_set_contains
  have f3:=aCi
  have f4:=aCh
  have f5:=aCk
  repeat (any_goals (first |assumption |wp_step))
  exact xN (by decide+kernel) aF8 aFu f2 hT (zzP ⟨_,rfl,hs⟩)
set_option maxHeartbeats 1000000 in
theorem mG{a:bz}{st:SetTable}{b:dj}(hx:s.heap.get? a=aa {cls:=.type "set",dict:=none,data:=.set #[] k st,slots:= #[]})(h:Q (.ref s.heap.objs.size) {s with heap:=s.heap.push {cls:=.type "builtin_function_or_method",data:=.fields #[.builtin "set.__contains__",.ref a]},toks:=s.toks+1}):
  ar (gz prog w) A (vi (.ref a) "__contains__" b) Q E s:=by
 obtain⟨hp,g,d,tk,os⟩:=s
 have hT:∀ tk',(⟨hp,g,d,tk',os⟩:ak).TypeIs (.ref a) "set" :=λ_=>⟨_,hx,rfl⟩
 have f3:=F.slot_set_getattribute.lookup
 have f4:=F.slot_set_getattribute.bind (.ref a)
 repeat (any_goals (first |assumption |exact hT _ | ((with_reducible show ar _ _ (call (Value.builtin "set.__getattribute__") _ _) _ _ _);refine wa F.slot_set_getattribute (hT _) kJ (F.args_set_getattribute_2 _ _) (kC a k st _) ⟨hx,?_⟩) |wp_step))
 have hb:(b && onTheHeap (Value.builtin "set.__getattribute__"))=af:=by cases b<;>rfl
 delta boundAndCalled
 repeat (any_goals (first |assumption |exact hT _ | ((with_reducible refine(?_:ar _ _ (call (Value.builtin "set.__getattribute__") _ _) _ _ _));refine wa F.slot_set_getattribute (hT _) kJ (F.args_set_getattribute_2 _ _) (kC a k st _) ⟨hx,?_⟩) |wp_step))
 exact zzP h
noncomputable abbrev bObj(id:pj)(self:au):Obj:= {cls:=.type "builtin_function_or_method",data:=.fields #[.builtin id,self]}
theorem v5{id:pj}(ho:h.get? x=aa (bObj id self)):∃ k,(k=Keeper.frame\/k=Keeper.machine\/k=Keeper.boundFrame)/\mq C.M h (keeperOf (.ref x)) k:=by
 exact⟨.machine,.inr (.inl rfl),(Looks.ld ho).andThen .now⟩
theorem rA:nq (.type "dict") (.type "module")=pure af:=by rw[ir];kernel_rfl
theorem tX:nq (.type "set") (.type "module")=pure af:=by rw[ir];kernel_rfl
def okB(id full:pj)(args:Args):Prop:=(match Manifest.signature? id with |some sig=>Bind.checkArgs id {sig with full:=full} args |none=>(pure ():Sem ur))=pure ()
theorem aFx(a b c:au):okB "dict.get" "dict.get" ⟨[a,b,c],[]⟩:=by
 delta okB;rw[signature?_of (n:=['t','e','g']) ⋯ PySem.F.owner_dict];kernel_rfl
theorem aFy(a b:au):okB "set.__contains__" "set.__contains__" ⟨[a,b],[]⟩:=by
 delta okB;rw[signature?_of (n:=['_','_','s','n','i','a','t','n','o','c','_','_']) ⋯ PySem.F.owner_set];kernel_rfl
theorem l6{id:pj}(hk:ou id=aa .method)(hn:Bind.lastOf id=nm)(hv:Manifest.varargsMethods.contains id=af)(hm:nq (.type T) (.type "module")=pure af)(ho:s.heap.get? d=aa o)(hc:o.cls= .type T)(hnc:∀ c,o.data≠ .cls c)(hfull:s!"{Bind.lastOf T}.{nm}" =full)(hok:okB id full ⟨.ref d::rest,[]⟩)(h:Q () s):ar M A (qx id ⟨.ref d::rest,[]⟩) Q E s:=by
 delta qx
 rw[<-hfull]at hok
 unfold okB at hok
 cases hs:Manifest.signature? id with
 |none=>exact zzP h
 |some sig=>
  rw[hs]at hok
  rw[hk]
  dsimp only
  refine rwL (aq (by decide)) (rwL hn (zzB (lq ⟨o,ho,hc⟩ hm (rwL hv (rwL (aq (by decide)) (zzB ?_))))))
  show ar M A (loadHead d >>=λob=>pure (match ob.data with | .cls _=>ag |_=>af)) _ _ s
  refine zzB (uw ho ?_)
  have e:(match o.data with | .cls _=>ag |_=>af)=af:=by
   cases q:o.data<;>first |rfl |exact ba q (hnc _)
  exact rwL e (zzP (rwL (aq (by decide)) (zzB (tS ⟨o,ho,hc⟩ (ja hok h)))))
theorem aDr:s!"{Bind.lastOf "dict"}.{"get"}" ="dict.get" :=by decide+kernel
theorem aDs:s!"{Bind.lastOf "set"}.{"__contains__"}" ="set.__contains__" :=by decide+kernel
theorem aC6:ou "dict.get" =aa .method:=by decide+kernel
theorem aC7:ou "set.__contains__" =aa .method:=by decide+kernel
theorem aC2:Bind.lastOf "dict.get" ="get" :=by decide+kernel
theorem aC3:Bind.lastOf "set.__contains__" ="__contains__" :=by decide+kernel
theorem aFh:Manifest.varargsMethods.contains "dict.get" =af:=by decide+kernel
theorem aFi:Manifest.varargsMethods.contains "set.__contains__" =af:=by decide+kernel
theorem oW{id:pj}(ho:s.heap.get? x=aa (bObj id self))(hc:∀ {A':ef}{E':au->ak->Prop}{Q':ur->ak->Prop},Q' () s->ar (gz prog w) A' (qx id ⟨self::args,[]⟩) Q' E' s)(hq:xh id=ag)(hb:pd qj id=aa B)(g:MeetsIn prog w (B ⟨self::args,[]⟩) S)(h:S A (wants Q E) s):ar (gz prog w) A (call (.ref x) args) Q E s:=by
 refine jc (mc ?_)
 show ar _ A.in1 (callAny (.ref x) ⟨args,[]⟩) _ _ s
 delta callAny;dsimp only
 refine zzB (wpAny_load ho ?_)
 simp only[show (Value.type "builtin_function_or_method" ==Value.type "method" || Value.type "builtin_function_or_method" ==Value.type "builtin_function_or_method" || Value.type "builtin_function_or_method" ==Value.type "method-wrapper")=ag by decide,vh]
 refine KFB.if_so (by decide) (zzB (hc (zzB (zzP (zzP ⟨vr hq _,codeAny_builtin hb ?_⟩)))))
 rw[Around.under_plainId hq]
 exact g A _ s h
theorem wE{h:lu}{a:bz}(ho:h.get? a=aa {cls:=.type "set",data:=.set #[] n t})(hf:t.fits 0=ag)(prog:se)(w:jn):h.SetOf (si prog w) a (λ_=>af) 0:=⟨_,#[],n,t,ho,⟨rfl,rfl,rfl⟩,rfl,λe he=>by simp at he,λk=>by simp,by decide,hf,rfl⟩
theorem zR{a:bz}:MeetsIn prog w (Builtin.«frozenset.__contains__» ⟨[.ref a,.int k u],[]⟩) (λ_ R s=>(∃ n t,s.heap.get? a=aa {cls:=.type "set",data:=.set #[] n t}/\t.fits 0=ag)/\R (.ok (.ret (.bool af))) {s with toks:=s.toks+1}):=.of_wp λA R s ⟨⟨n,t,ho,hf⟩,h⟩=>by
  refine zzB (zzP ?_)
  try refine zzB (zzP ?_)
  try exact zzB (wpAny_tryCatch (ax (zzB ((si prog w).pyHash (qu _ _ _ _) (zzB (wpAny_setFind_of (qu _ _ _ _) rfl (wE ho hf prog w) λr hr=>(zzP (rwL hr (zzP ⟨_,rfl,h⟩)))))))))
def eBd(mk:Nat->V)(ok:MO->dj)(f:EF):EF:=λlo H Q=>f lo H λa H1=>Lf a.rf λi=>Lf H1[i]? λm=>ok m=ag/\Q (mk i) H1
def okD:MO->dj | .dict _ _=>ag |_=>af
def okS:MO->dj | .eset=>ag |_=>af
theorem EV.dget(h:EV C r env e f)(hb:jp e "get" env (iw e env)=iw e env)(ht:∀ o y,my e o y=pure ()):EV C r env (.Attribute e "get" pos) (eBd .dget okD f):=λ_ _ _ _ _ _ hr S F q=>dM hb (h.run hr S F q λS1 N1 r1 q=>q.elim λi hi q=>q.elim λm hH q=>by
  obtain⟨l,_,rfl,g'⟩:=r1.toRef hi
  obtain⟨hok,q⟩:=q
  cases m with
  |dict n g=>
   obtain⟨e1,e2,kvs,⟨⟨oc,od,odt,osl⟩,es,ep,ho,⟨c1,c2,c3⟩,hd,_⟩,_⟩:=S1.objs i _ l hH g'
   simp only at c1 c2 c3 hd
   subst c1 c2 c3 hd
   exact lF ho ⟨(S1.push _).toks _,N1.trans ((Nx.push _).trans (.toks _)),.dget g' (Heap.get?_push_size _ rfl),q⟩
  |_=>cases hok)
theorem aHa(h:okS m=ag):m= .eset:=by cases m<;>first |rfl |cases h
theorem EV.scon2(h:EV C r env e f)(hb:jp e "__contains__" env (iw e env)=iw e env):EV C r env (.Attribute e "__contains__" pos) (eBd .scon okS f):=λ_ _ _ _ _ _ hr S F q=>dM hb (h.run hr S F q λS1 N1 r1 q=>q.elim λi hi q=>q.elim λm hH q=>by
  obtain⟨l,_,rfl,g'⟩:=r1.toRef hi
  obtain⟨hok,q⟩:=q
  obtain rfl:=aHa hok
  obtain⟨e1,e2,n,t,ho,hf⟩:=S1.objs i _ l hH g'
  exact mG ho ⟨(S1.push _).toks _,N1.trans ((Nx.push _).trans (.toks _)),.scon g' (Heap.get?_push_size _ rfl),q⟩)
theorem aAi(hx:s.heap.get? x=aa (bObj "set.__contains__" (.ref d)))(ho:s.heap.get? d=aa {cls:=.type "set",data:=.set #[] n t})(hf:t.fits 0=ag)(h:Q (.bool af) {s with toks:=s.toks+1}):ar (gz prog w) A (call (.ref x) [.int k u]) Q E s:=by
 have hc:∀ {A':ef}{E':au->ak->Prop}{Q':ur->ak->Prop},Q' () s->ar (gz prog w) A' (qx "set.__contains__" ⟨.ref d::[.int k u],[]⟩) Q' E' s:=by
  intro A' E' Q' hq
  refine l6 (nm:="__contains__") (id:="set.__contains__") aC7 ?_ ?_ ?_ ho rfl (λc z=>by injection z) ?_ (aFy (.ref d) (.int k u)) hq
  ·exact aC3
  ·exact aFi
  ·exact tX
  ·exact aDs
 exact oW hx hc PySem.F.slot_set_contains.plain entry_set_contains zR ⟨⟨n,t,ho,hf⟩,h⟩
def V.bd:V->ae (dj×Nat) | .dget i=>aa (ag,i) | .scon i=>aa (af,i) |_=>Option.none
def twoV(vs:ac V):ae (Int×V):=match vs with | [a,b]=>(Ti a).map λk=>(k,b) |_=>none
def eCv(f:EF)(fs:EFs):EF:=λlo H Q=>f lo H λa H1=>Lf a.bd λp=>fs lo H1 λvs H2=>
 bif p.1 then Lf (twoV vs) λkv=>Lf (H2[p.2]?.bind MO.dct) λd=>Q ((d.2 kv.1).getD kv.2) H2
 else Lf ((one vs).bind Ti) λk=>H2[p.2]? =aa .eset/\Q (.bool af) H2
theorem VR.toBd(r:VR ρ h u v)(e:v.bd=aa (t,i)):∃ a l,u= .ref a/\ρ[i]? =aa l/\h.get? a=aa (bObj (bif t then "dict.get" else "set.__contains__") (.ref l.a)):=by
 cases v with
 |dget n=>exact cxSP e r.inv
 |scon n=>exact cxSP e r.inv
 |_=>first |exact aE e |cases e
theorem two_ok(r:VRs ρ h us vs)(e:twoV vs=aa p):∃ t u,us= [.int p.1 t,u]/\VR ρ h u p.2:=by
 refine xEE (rO e rfl (λ_=>rfl) λ_ _ _ _=>rfl) λ_ _ z=>?_;subst z
 refine xEA (df.mp e) λk hk e=>bZ r.a2 λa b z87 ra rb=>rwL z87 ?_
 refine xE (ra.tiE hk) λt z88=>rwL z88 ?_
 exact cxP e ⟨t,b,rfl,rb⟩
theorem aAj{ad:bz}{K:au->ak->Prop}(hb:∃ o,C.base.heap.get? mz=aa o)(S2:Sim C H2 ρ2 s2)(D:DctAt C H2 ρ2 s2 i l n g kvs)(go2:s2.heap.get? ad=aa (bObj "dict.get" (.ref l.a)))(h:K ((ox kvs k).getD c) {s2 with toks:=s2.toks+1}):ar C.M A (call (.ref ad) [.int k t,c]) K NoE s2:=by
 refine cN D.x λoo es' ep ho z89 hd _=>xAA z89 λc1 c2 c3=>?_
 exact oW go2 (λhq=>l6 aC6 aC2 aFh rA ho c1 (λc=>by rw[hd];intro z;cases z) aDr (aFx _ _ _) hq) PySem.F.slot_dict_get.plain PySem.F.entry_dict_get
  (meets_dict_get_default (si C.prog C.w) l.a (qu _ _ _ _) (q9 S2 D.g D.h hb) _) ⟨_,D.x.mapOf,h⟩
theorem EV.callV(hb:∃ o,C.base.heap.get? mz=aa o)(h:EV C r env (.Name x np) f)(ha:EVs C r env es fs)(hfl:mC env es):EV C r env (.Call (.Name x np) es [] pos) (eCv f fs):=λA s ρ H lo Q hr S F q=>mr (h.run hr S F q λS1 N1 r1 q=>q.elim λp hp q=>by
  obtain⟨t,i⟩:=p
  refine bZ (r1.toBd hp) λad l z90 gl go=>rwL z90 ?_
  refine ot (P:=λh=>h.get? ad=aa (bObj (bif t then "dict.get" else "set.__contains__") (.ref l.a))) (by rw[hfl.2];rfl) (λh hh=>v5 hh) (wmN (kO ha hfl hr S1 (F.nx N1) q) λa s2 p=>?_)
  obtain⟨ps,kw⟩:=a
  obtain⟨hkw,S2,N2,rs,q⟩:=p
  subst hkw
  have go2:=N2.imm _ _ go (by simp [bB])
  refine⟨go2,?_⟩
  have N:=N1.trans N2
  have hl2:=aQ N2.pre gl
  cases t with
  |true=>
   replace q:=show Lf (twoV _) _ from q
   refine q.elim λkv hkv q=>q.elim λd hd q=>xE (sO S2 hl2 (wG hd)) λkvs D=>iQ (two_ok rs hkv) λt u e ru=>?_
   subst e
   refine aAj hb S2 D go2 ?_
   rcases(D.f kv.1).same with ⟨e,e'⟩ |⟨x',v',e,e',rv⟩
   ·rw[e];rw[e']at q;exact bR.from N (.tok S2 ru q)
   ·rw[e];rw[e']at q;exact bR.from N (.tok S2 rv q)
  |false=>
   replace q:=show Lf ((one _).bind Ti) _ from q
   refine q.elim λk hk q=>xEA (aj.mp hk) λv hv hk=>xEA (jW rs hv) λu e ru=>?_
   subst e
   refine xE (ru.tiE hk) λt z91=>rwL z91 ?_
   exact jU (S2.objs i _ l q.1 hl2) λg1 g2 n t ho hf=>aAi go2 ho hf (bR.from N (.tok S2 (.bool _) q.2)))
theorem Room.deeper(h:Room (r+1) A)(env:Env):Room r (A.deeper env):=by
 refine xAA h λh1 h2 h3=>⟨h1,(A30 h2:A.depth+1+10*r<=700),?_⟩
 ·exact(A31 h3:A.units+3+40*r<=8000)
def lo0:Lo:=λ_=>none
def loB:ac Str->ac V->Lo->Lo
 |x::xs,v::vs,lo=>loB xs vs (upd lo x v)
 |_,_,lo=>lo
theorem loB_c(x:Str)(xs:ac Str)(v:V)(vs:ac V)(lo:Lo):loB (x::xs) (v::vs) lo=loB xs vs (upd lo x v):=rfl
theorem aE5(kindOf:Str->ae jx)(xs:ac Str):∀ {us:ac au}{vs:ac V}{m cm:Str->ae au}{lo:Lo},VRs ρ h us vs->us.length=xs.length-> (∀ x∈xs,kindOf x=aa .local\/kindOf x=aa .cell)-> (∀ x,kindOf x=aa .local->OV ρ h (m x) (lo x))->(∀ x,kindOf x=aa .cell->OV ρ h (cm x) (lo x))-> (∀ x,kindOf x=aa .local->OV ρ h (bindL kindOf (xs.zip us) m x) (loB xs vs lo x))/\(∀ x,kindOf x=aa .cell->OV ρ h (bindC kindOf (xs.zip us) cm x) (loB xs vs lo x)):=by
 induction xs with
 |nil=>
  intro us vs m cm lo r hl _ a b
  cases r with
  |nil=>exact⟨a,b⟩
  |cons=>exact ba hl (Nat.succ_ne_zero _)
 |cons x xs ih=>
  intro us vs m cm lo r hl hk h1 h2
  cases r with
  |nil=>exact ba hl (Nat.succ_ne_zero _).symm
  | @cons u us v vs a b=>
  simp only[List.zip_cons_cons,bindL,bindC,loB_c]
  refine Or.elim (hk x jq) (λq=>?_) λq=>?_
  ·refine rwL (aw q) (rwL (aw q) (ih b (Nat.succ.inj hl) (λy hy=>hk y (gh _ hy)) (λy hy=>?_) (λy hy=>?_)))
   ·by_cases e:y=x
    ·simp [upd,e];exact a
    ·simp [upd,e];exact h1 y hy
   ·have e:y≠x:=by rintro rfl;cases (q▸hy)
    simp [upd,e];exact h2 y hy
  ·have q': ¬kindOf x=aa .local:=by rw[q];intro z;cases z
   refine rwL (aq q') (rwL (aq q') (ih b (Nat.succ.inj hl) (λy hy=>hk y (gh _ hy)) (λy hy=>?_) (λy hy=>?_)))
   ·have e:y≠x:=by rintro rfl;cases (q▸hy)
    simp [upd,e];exact h1 y hy
   ·by_cases e:y=x
    ·simp [upd,e];exact a
    ·simp [upd,e];exact h2 y hy
theorem fH:∀ (names:ac (Str×jx)) (n:Nat) (acc:ac (Str×bz)),(acc.lookup x).isSome=ag\/(∃ k,(x,k)∈names/\k= .cell)->((cellsFrom n names acc).lookup x).isSome=ag:=λl=>by
 induction l with
 |nil=>
  intro _ _ h
  rcases h with h |⟨k,h,_⟩
  ·exact h
  ·cases h
 |cons zx r ih=>
  obtain⟨y,k⟩:=zx
  intro n acc h
  unfold cellsFrom
  split
  ·rename_i hk
   refine ih (n+1) _ ?_
   rcases h with h |⟨k',h,hk'⟩
   ·left
    simp only[List.lookup]
    split
    ·rfl
    ·exact h
   ·refine Or.elim (ez.mp h) (λe=>?_) λe=>?_
    ·refine cxP e ?_;left;simp [List.lookup]
    ·exact .inr ⟨k',e,hk'⟩
  ·rename_i hk
   refine ih n _ ?_
   rcases h with h |⟨k',h,hk'⟩
   ·exact .inl h
   ·refine Or.elim (ez.mp h) (λe=>?_) λe=>?_
    ·cases e;subst hk';exact ba rfl hk
    ·exact .inr ⟨k',e,hk'⟩
structure Def(C:Cx)(a:bz)(fd:ux)(body:ac jb):Prop where
 obj:∃ o,C.base.heap.get? a=aa o/\o.data= .func fd
 code:C.base.heap.CodeRec fd.code fd.qualname
 body:fd.body= .stmts body
 clo:fd.closure= []
 gl:fd.globals=ew
 bi:fd.builtins=jv
 kind:fd.scope.kind= .function
 co:fd.scope.isCoroutine=af
 free:∀ x:Str,fd.scope.names.lookup x≠aa .free
theorem Fm.call{a:bz}(D:Def C a fd body)(S:Sim C H ρ s)(hu:VRs ρ s.heap us vs)(hl:us.length=names.length)(hn:∀ x∈names,fd.scope.names.lookup x=aa .local\/fd.scope.names.lookup x=aa .cell)(I:InCallC s (fh fd s.heap.objs.size a).locals (bindL (fh fd s.heap.objs.size a).kindOf (names.zip us) λ_=>none) (fh fd s.heap.objs.size a).cells (bindC (fh fd s.heap.objs.size a).kindOf (names.zip us) λ_=>none) s1):Sim C H ρ s1/\Nx ρ noW s ρ s1/\Fm C (fh fd s.heap.objs.size a) ρ s1 (loB names vs lo0)/\(∀ b,Wr (fh fd s.heap.objs.size a) b->s.heap.get? b=none):=by
 obtain⟨⟨⟨h',tk,e⟩,ns,keep,ny⟩,cell,apart,above⟩:=I
 subst e
 have hfr:∀ b,Wr (fh fd s.heap.objs.size a) b->s.heap.get? b=none:=by
  rintro b (rfl |⟨x,hx⟩)
  ·exact bG _
  ·cases q:s.heap.get? b with
   |none=>rfl
   |some o=>exact ba (show s.heap.objs.size<b from (above x b (mem_of_lookup hx))) (Nat.not_lt.mpr (Nat.le_of_lt (Heap.lt_size q)))
 have B:=aE5 (ρ:=ρ) (fh fd s.heap.objs.size a).kindOf names (m:=λ_=>none) (cm:=λ_=>none) (lo:=lo0) (hu.mono (be ρ) (eF keep)) hl hn (λ_ _=>trivial) (λ_ _=>trivial)
 refine⟨(S.ext keep),(.ext keep),⟨D.kind,D.gl,D.bi,⟨_,ns,B.1⟩,λx hx=>?_,λb hb=>⟨eU S (hfr b hb),d3 S (hfr b hb)⟩,λx c hx=>?_,λx y c hx hy=>?_,?_⟩,hfr⟩
 ·refine Or.elim hx (λhx=>(xE (Option.isSome_iff_exists.mp (fH _ _ _ (.inr ⟨_,mem_of_lookup hx,rfl⟩))) λc hc=>xEA (cell x c hc) λo h1 h2=>⟨c,o,_,hc,h1,h2,B.2 x hx⟩)) λhx=>?_
  ·exact ba hx (D.free x)
 ·exact λq=>(Nat.lt_irrefl _ (q▸(above x c (mem_of_lookup hx))))
 ·exact name_of_addr apart (mem_of_lookup hx) (mem_of_lookup hy)
 ·rintro b (rfl |⟨x,hx⟩)
  ·exact iI ns λo _ _ g _=>⟨o,g⟩
  ·exact xEA (cell x b hx) λo g _=>⟨o,g⟩
theorem Nx.leave(a:Nx ρ noW s ρ s0)(b:Nx ρ W s0 ρ1 s1)(hW:∀ x,W x->s.heap.get? x=none):Nx ρ noW s ρ1 s1:=by
 have T:=a.wr.trans b
 exact⟨T.pre,T.new,λx o e ho _=>T.kp x o e ho (λq=>by cases ((hW x q)▸e)),T.imm,T.al⟩
def kY(Q:EK):SK:=λfl _ H=>match fl with | .ret v=>Q v H | .next=>Q .none H |_=>fe
def jH(names:ac Str)(more:ac V)(f:SF):CF:=λvs H Q=>(vs++more).length=names.length/\f (loB names (vs++more) lo0) H (kY Q)
def Binds(C:Cx)(fd:ux)(names:ac Str)(dflt:ac au):Prop:=∀ (s:ak) (us:ac au),(∀ b o,C.base.heap.get? b=aa o->s.heap.get? b=aa o)->(us++dflt).length=names.length->BindsTo s fd ⟨us,[]⟩ (names.zip (us++dflt))
def sW(C:Cx)(ρ:ac Lc)(s:ak)(Q:EK):qk->ak->Prop
 | .ok (.ret x),s'=>bR C ρ s Q x s'
 |_,_=>fe
theorem i9{a:bz}(D:Def C a fd body){dflt:ac au}(hgen:fd.scope.isGenerator=af)(hb:Binds C fd names dflt)(hd:∀ ρ h,VRs ρ h dflt more)(hn:∀ x∈names,fd.scope.names.lookup x=aa .local\/fd.scope.names.lookup x=aa .cell)(hf:∀ L,SVs C r (fh fd L a) body f)(hr:Room (r+1) A)(S:Sim C H ρ s)(hu:VRs ρ s.heap us vs)(e:jH names more f vs H Q):kr C.M A (.call (.ref a) ⟨us,[]⟩) (sW C ρ s Q) s:=by
 refine xEA D.obj λo ho hdata=>xA e λhlen e=>?_
 have hlen':=(hu.append (hd _ _)).length.trans hlen
 refine codeAny_call_function hr.lt (S.keep _ _ ho) hdata D.co hgen D.body (D.code.keeps S.keep) (hb s us S.keep hlen' _ _ _ _ (rwL D.clo (qy D.kind (λx hx=>((λx hx=>hn x.1 (List.of_mem_zip hx).1) x hx).imp_right λq=>⟨q,fH _ _ _ (.inr ⟨_,mem_of_lookup q,rfl⟩)⟩) λenv he s1 I=>?_)))
 subst he
 refine xAAA (Fm.call D S (hu.append (hd _ _)) hlen' hn I) λS1 N1 F1 hfr=>⟨(C.lim.keeps S.keep).keeps I.toInCall.keep,codeAny_func (wmN (hf s.heap.objs.size (hr.deeper _) S1 F1 e) λfw s2 p=>?_)⟩
 obtain⟨S2,N2,F2,r2,q⟩:=p
 cases r2 with
 |ret r2=>exact⟨S2,N1.leave N2 hfr,r2,q⟩
 |next=>exact⟨S2,N1.leave N2 hfr,.none,q⟩
 |brk=>exact q.elim
 |cont=>exact q.elim
def CC(C:Cx)(r:Nat)(f:au)(g:CF):Prop:=∀ {A:ef}{s:ak}{ρ:ac Lc}{H:MH}{us:ac au}{vs:ac V}{Q:EK},Room r A->Sim C H ρ s->VRs ρ s.heap us vs->g vs H Q->kr C.M A (.call f ⟨us,[]⟩) (sW C ρ s Q) s
theorem CC.cv{a:bz}(ho:C.base.heap.get? a=aa o)(hd:o.data= .func fd)(h:CC C r (.ref a) g):CV C r (.ref a) g:=by
 refine⟨λhp hk=>⟨.frame,.inl rfl,(Looks.ld (hk _ _ ho)).andThen (by exact rwL hd .now)⟩,λhr S hu e=>jc (jz (h hr S hu e) λrr s' h=>?_)⟩
 rcases rr with x | (x |_ |_ |_)<;>first |exact h |exact h.elim
theorem CV.def_{a:bz}(D:Def C a fd body){dflt:ac au}(hgen:fd.scope.isGenerator=af)(hb:Binds C fd names dflt)(hd:∀ ρ h,VRs ρ h dflt more)(hn:∀ x∈names,fd.scope.names.lookup x=aa .local\/fd.scope.names.lookup x=aa .cell)(hf:∀ L,SVs C r (fh fd L a) body f):CV C (r+1) (.ref a) (jH names more f):=let ⟨_,ho,hdata⟩:=D.obj
 CC.cv ho hdata λhr S hu e=>i9 D hgen hb hd hn hf hr S hu e
def iD(cells:ac (Str×bz))(l:ac (Str×jx)):ac (Str×bz)->ac (Str×bz):=l.rec (λacc=>acc) λp _ ih acc=>if p.2== .free then ih ((p.1,(cells.lookup p.1).getD 0)::acc) else ih acc
theorem oS(h:(k== .free)=ag):iD cells ((n,k)::r) acc=iD cells r ((n,(cells.lookup n).getD 0)::acc):=aw h
theorem oU(h: ¬(k== .free)=ag):iD cells ((n,k)::r) acc=iD cells r acc:=aq h
theorem j3(f:Str×jx->ac (Str×bz)->Sem (ForInStep (ac (Str×bz))))(hf:∀ name kind cs,f (name,kind) cs=if kind== .free then(do let a<-cellOf env name;pure (.yield ((name,a)::cs))) else pure (.yield cs)):∀ (names:ac (Str×jx)) (acc:ac (Str×bz)) (Q:ac (Str×bz)->ak->Prop),(∀ p∈names,p.2= .free->∃ c,env.cells.lookup p.1=aa c)-> Q (iD env.cells names acc) s->ar M A (forIn names acc f) Q E s:=λn=>by
 induction n with
 |nil=>
  exact λacc Q _ h=>(rwL wt (zzP h))
 |cons zx r ih=>
  obtain⟨name,kind⟩:=zx
  intro acc Q hc h
  rw[lx,hf]
  by_cases hk:(kind== .free)=ag
  ·rw[aw hk]
   rw[oS hk]at h
   refine xE (hc (name,kind) jq (by simpa using hk)) λc hc1=>?_
   rw[hc1]at h
   exact zzB (zzB (wpAny_cellOf hc1 (zzP (ih _ Q (λp hp=>hc p (gh _ hp)) h))))
  ·exact rwL (aq hk) (zzB (zzP (ih _ Q (λp hp=>hc p (gh _ hp)) (rwR (oU hk) h))))
theorem j4:∀ (names:ac (Str×jx)) (acc:ac (Str×bz)),(∀ p∈names,p.2= .free->∃ c,cells.lookup p.1=aa c)->(x,c)∈iD cells names acc->(x,c)∈acc\/cells.lookup x=aa c:=λl=>by
 induction l with
 |nil=>
  exact λ_ _ h=>(.inl h)
 |cons zx r ih=>
  obtain⟨n,k⟩:=zx
  intro acc hc h
  by_cases hk:(k== .free)=ag
  ·refine Or.elim (ih _ (λp hp=>hc p (gh _ hp)) (rwR (oS hk) h)) (λq=>?_) λq=>?_
   ·refine Or.elim (ez.mp q) (λe=>?_) λe=>?_
    ·cases e
     refine xE (hc (x,k) jq (by simpa using hk)) λc hc1=>?_
     right;simp at hc1;rw[hc1];rfl
    ·exact .inl e
   ·exact .inr q
  ·exact ih _ (λp hp=>hc p (gh _ hp)) (rwR (oU hk) h)
theorem j5:∀ (names:ac (Str×jx)) (acc:ac (Str×bz)),(∀ p∈names,p.2= .free->∃ c,cells.lookup p.1=aa c)->(acc.lookup x).isSome=ag\/(x,NameKind.free)∈names->((iD cells names acc).lookup x).isSome=ag:=λl=>by
 induction l with
 |nil=>
  refine λ_ _ h=>(Or.elim h (λh=>h) λh=>?_)
  ·cases h
 |cons zx r ih=>
  obtain⟨n,k⟩:=zx
  intro acc hc h
  by_cases hk:(k== .free)=ag
  ·refine rwL (oS hk) (ih _ (λp hp=>hc p (gh _ hp)) (Or.elim h (λh=>?_) λh=>?_))
   ·left
    simp only[List.lookup]
    split
    ·rfl
    ·exact h
   ·refine Or.elim (ez.mp h) (λe=>?_) λe=>?_
    ·refine cxP e ?_;left;simp [List.lookup]
    ·exact .inr e
  ·refine rwL (oU hk) (ih _ (λp hp=>hc p (gh _ hp)) (Or.elim h (λh=>(.inl h)) λh=>?_))
   ·refine Or.elim (ez.mp h) (λe=>?_) λe=>?_
    ·cases e;exact ba rfl hk
    ·exact .inr e
def vT(env:Env)(n:Str)(k:jx):dj:=k== .free && env.scope.kind== .function && env.kindOf n==aa .cell
def gS(env:Env)(sc:tu)(L:bz):Env:={(newEnv sc L env.globals (iD env.cells sc.names []) env.qual none .none (aa env) jv) with scope:= {sc with names:=sc.names.map λp=>if vT env p.1 p.2 then(p.1,.cell) else(p.1,p.2)}}
theorem nF{f:Str->jx->jx}:∀ l:ac (Str×jx),(l.map λp=>(p.1,f p.1 p.2)).lookup x=(l.lookup x).map (f x)
 | []=>rfl
 | (n,k)::r=>by
  simp only[jf,List.lookup]
  cases h:x==n with
  |true=>obtain rfl:=beq_iff_eq.mp h;rfl
  |false=>exact nF r
theorem jG(env:Env)(sc:tu)(L:bz)(x:Str):(gS env sc L).kindOf x=(sc.names.lookup x).map λk=>if vT env x k then .cell else k:=by
 show(sc.names.map λp=>if vT env p.1 p.2 then(p.1,NameKind.cell) else(p.1,p.2)).lookup x=_
 rw[<-nF (f:=λn k=>if vT env n k then .cell else k)]
 congr 1
 refine List.map_congr_left λp _=>?_
 split<;>rfl
structure lK(env:Env)(sc:tu)(hid:ac Str):Prop where
 kind:sc.kind= .function
 nocell:(sc.names.all λp=>p.2 != .cell)=ag
 free:(sc.names.all λp=>p.2 != .free || (env.kindOf p.1==aa .cell))=ag
 hid:(sc.names.all λp=>p.2 != .local || (sc.names.lookup p.1==aa .local && hid.contains p.1))=ag
def hide(hid:ac Str)(lo:Lo):Lo:=λx=>if hid.contains x then none else lo x
theorem Fm.comp(K:lK env sc hid)(hh:∀ x∈hid,sc.names.lookup x≠aa .free)(S:Sim C H ρ s)(F:Fm C env ρ s lo)(hL:s.heap.get? L=none)(hns:s1.heap.Ns L λ_=>none)(N:Nx ρ noW s ρ s1):Fm C (gS env sc L) ρ s1 (hide hid lo)/\(∀ b,Wr (gS env sc L) b->b=L\/Wr env b):=by
 have hfc:∀ p∈sc.names,p.2= .free->∃ c,env.cells.lookup p.1=aa c:=λp hp hk=>by
  have h:=ie.mp K.free p hp
  rw[hk]at h
  simp at h
  exact iI (F.cl p.1 (.inl h)) λc _ _ hc _=>⟨c,hc⟩
 have hcells:∀ x c,(gS env sc L).cells.lookup x=aa c->env.cells.lookup x=aa c:=λx c h=>by
  refine Or.elim (j4 sc.names [] hfc (mem_of_lookup h)) (λq=>?_) λq=>?_
  ·cases q
  ·exact q
 have hW:∀ b,Wr (gS env sc L) b->b=L\/Wr env b:=by
  rintro b (rfl |⟨x,hx⟩)
  ·exact .inl rfl
  ·exact .inr (.inr ⟨x,hcells x b hx⟩)
 have F1:=F.next N λ_ _ q=>q
 refine⟨⟨K.kind,F.gl,F.bi,⟨_,hns,λx hx=>?_⟩,λx hx=>?_,λb hb=>?_,λx c hc=>?_,λx y c hx hy=>F.inj x y c (hcells x c hx) (hcells y c hy),λb hb=>?_⟩,hW⟩
 ·rw[jG]at hx
  have hm:hid.contains x=ag:=by
   cases hk:sc.names.lookup x with
   |none=>cases (hk▸hx)
   |some k=>
    rw[hk]at hx
    simp only[qt,Option.some.injEq]at hx
    split at hx
    ·cases hx
    ·subst hx
     have h:=ie.mp K.hid _ (mem_of_lookup hk)
     simp at h
     simpa using h.2
  delta hide
  rw[aw hm]
  trivial
 ·rw[jG]at hx
  have hfr:sc.names.lookup x=aa .free:=by
   cases hk:sc.names.lookup x with
   |none=>rw[hk]at hx;refine Or.elim hx (λhx=>?_) λhx=>?_<;>cases hx
   |some k=>
    have h2:=ie.mp K.nocell _ (mem_of_lookup hk)
    rw[hk]at hx
    simp only[qt,Option.some.injEq]at hx
    by_cases ho:vT env x k=ag
    ·have:=by unfold vT at ho;simp at ho;exact ho.1.1
     rw[this]
    ·rw[aq ho]at hx
     refine Or.elim hx (λhx=>?_) λhx=>?_
     ·subst hx;simp at h2
     ·rw[hx]
  have hkx:env.kindOf x=aa .cell:=by
   simpa using (ie.mp K.free _ (mem_of_lookup hfr))
  refine cN (F1.cl x (.inl hkx)) λc o u h1 h2 h3 h4=>xE (Option.isSome_iff_exists.mp (j5 sc.names [] hfc (.inr (mem_of_lookup hfr)))) λc' hc'=>cyS (h1▸(hcells x c' hc')) λzq=>?_;subst zq
  refine⟨c,o,u,hc',h2,h3,?_⟩
  delta hide
  exact rwL (aq (λq=>hh x (by simpa using q) hfr)) h4
 ·rcases hW b hb with rfl |q
  ·exact⟨eU S hL,d3 S hL⟩
  ·exact F1.own b q
 ·intro q
  have q':c=L:=q
  refine xE (F.alv L (.inr ⟨x,hcells x L (rwR q' hc)⟩)) λo ho=>?_
  cases (hL▸ho)
 ·rcases hW b hb with rfl |q
  ·exact iI hns λo _ _ g _=>⟨o,g⟩
  ·exact F1.alv b q
def LW(env:Env):bz->Prop:=λb=>b=env.locals
noncomputable abbrev ALV(C:Cx)(r:Nat)(env:Env)(t:Expr)(f:AF):Prop:=AVW C LW r env t f
theorem ALV.name{pos}(hk:env.kindOf x=aa .local):ALV C r env (.Name x pos) (aN x):=λ_ _ _ _ _ _ _ _ _ S F rv e=>sp (gV (W:=LW env) S F rv (.inl ⟨hk,rfl⟩) λ_ S N F=>⟨S,N,F,e⟩)
noncomputable abbrev ALVs(C:Cx)(r:Nat)(env:Env)(ts:ac Expr)(f:AFs):Prop:=pB C LW r env ts f
theorem ALV.tuple{pos}(h:ALVs C r env ts g)(hn:(eh ts env).length=n)(hstar:(eh ts env).findIdx? (·.1)=none):ALV C r env (.Tuple ts k pos) (wQ n g):=AVW.tuple h hn hstar
def iH(K:ItK C):Prop:=∀ {A:ef}{s:ak}{ρ:ac Lc}{H:MH}{it:K.σ}{x:au}{X:bz->Prop}{Q:au->ak->Prop},Sim C H ρ s->(∃ y,K.nx it H y)->K.rel ρ s it x X->Q x s->ar C.M A (ut x) Q NoE s
theorem iH.list:iH (cC C):=by
 rintro A s ρ H it x X Q _ _ ⟨a,rfl,rfl,l,h1,h2⟩ h
 exact wpAny_pyIter_listiter h2 h
theorem iH.range:iH (mF C):=by
 rintro A s ρ H it x X Q _ _ ⟨a,rfl,rfl,h1⟩ h
 exact wpAny_pyIter_rangeiter h1 h
theorem iH.enum:iH (nG C):=by
 rintro A s ρ H it x X Q _ _ R h
 cases R with
 |mk h1 h2 h3 h4=>exact wpAny_pyIter_enum h3 h
def CnV(C:Cx)(r:Nat)(env:Env)(cs:ac Expr)(f:TF):Prop:=∀ ⦃A:ef⦄⦃s:ak⦄⦃ρ:ac Lc⦄⦃H:MH⦄⦃lo:Lo⦄⦃Q:dj->MH->Prop⦄,Room r A->Sim C H ρ s->Fm C env ρ s lo->f lo H Q->
  ar C.M A (forIn cs ag λc ok=>if ok=ag then(do let ok<-PySem.isTrue c env (iw c env);pure (ForInStep.yield ok)) else pure (ForInStep.yield ok)) (l8 C ρ s Q) NoE s
theorem CnV.nil:CnV C r env [] (tK ag):=by
 exact λA s ρ H lo Q hr S F e=>(rwL wt (zzP ⟨S,.refl,e⟩))
theorem u8:∀ cs:ac Expr,Q af s->ar M A (forIn cs af λc ok=>if ok=ag then(do let ok<-PySem.isTrue c env (iw c env);pure (ForInStep.yield ok)) else pure (ForInStep.yield ok)) Q E s:=λn=>by
 induction n with
 |nil=>
  exact λh=>(rwL wt (zzP h))
 |cons c cs ih=>
  intro h
  rw[lx,aq (by decide)]
  exact zzB (zzP (ih h))
theorem CnV.cons(h:TV C r env c f)(hs:CnV C r env cs g):CnV C r env (c::cs) (aX f g):=by
 intro A s ρ H lo Q hr S F q
 rw[lx,aw rfl]
 exact zzB (zzB (h.run hr S F q λ{b _ _ _} S1 N1 q=>zzP (match b,q with
  |true,q=>wmN (hs hr S1 (F.nx N1) q) λ_ _ p=>p.from N1
  |false,q=>u8 _ ⟨S1,N1,q⟩)))
noncomputable abbrev LK:=Lo->MH->Prop
noncomputable abbrev BF:=Nat->Lo->MH->LK->Prop
def y5(elt:Expr)(gens:ac mj)(sc:tu)(pos:Pos)(d:Nat)(acc:au)(env:Env)(K:Sem PySem.Fin):Sem PySem.Fin:=
 match gens[d+1]? with
 |some g'=>do
  let x<-iw g'.iter env
  xd g'.iter.pos
  if (g'.is_async != 0)=ag then do
    let x<-foldedIterable g'.iter x
    let it<-sj [x] (if (g'.is_async != 0)=ag then asyncIter x else ut x)
    let _<-runOwn (Code.compStart (elt.ListComp gens sc pos) (d+1) it acc env) env
    K
   else do
    let x<-gu g'.iter env x
    let it<-sj [x] (if (g'.is_async != 0)=ag then asyncIter x else ut x)
    let _<-runOwn (Code.compStart (elt.ListComp gens sc pos) (d+1) it acc env) env
    K
 |none=>(do
   let v<-iw elt env
   let _<-call (Value.builtin "list.append") [acc,v]
   pure ():Sem PUnit) >>=λ_=>K
def BV(C:Cx)(r:Nat)(env:Env)(elt:Expr)(gens:ac mj)(sc:tu)(pos:Pos)(d:Nat)(bf:BF):Prop:=∀ ⦃A:ef⦄⦃s:ak⦄⦃ρ:ac Lc⦄⦃H:MH⦄⦃lo:Lo⦄⦃Q0:LK⦄⦃ai:Nat⦄⦃l:Lc⦄⦃Q:PySem.Fin->ak->Prop⦄⦃K:Sem PySem.Fin⦄,Room r A->Sim C H ρ s->Fm C env ρ s lo->ρ[ai]? =aa l->bf ai lo H Q0->
  (∀ {s' ρ' lo' H'},Sim C H' ρ' s'->Nx ρ (LW env) s ρ' s'->Fm C env ρ' s' lo'->Q0 lo' H'->ar C.M A K Q NoE s')->ar C.M A (y5 elt gens sc pos d (.ref l.a) env K) Q NoE s
def eY(f:EF):BF:=λai lo H Q=>f lo H λv H1=>Lf (H1[ai]?.bind MO.own) λvs=>vs.length<1000000/\Q lo (H1.set ai (.list (vs++[v])))
theorem BV.last(h:EV C r env elt f)(hg:gens[d+1]? =none):BV C r env elt gens sc pos d (eY f):=by
 intro A s ρ H lo Q0 ai l Q K hr S F hl q hK
 delta y5
 refine rwL hg (zzB (zzB (h.run hr S F q λ{x s1 ρ1 v1 H1} S1 N1 r1 q=>q.elim λvs hv q=>(xEE (k9 S1 (aQ N1.pre hl) (k8 hv)) λxs n O=>?_))))
 have hz:xs.size<=wi:=by exact rwL dh (A33 O.r.sz q.1)
 refine zzB (eo slot_list_append ⟨_,O.x,rfl⟩ entry_list_append ?_ (args_list_append _ _))
 show ar _ _ (updateSeq l.a (·.push x) >>=λ_=>ret .none) _ _ s1
 refine zzB (qo O.x rfl (zzP ⟨.none,rfl,zzP ?_⟩) hz (by rw[Array.size_push];exact kh hz))
 have st:=O.put (k:=s1.toks) S1 (λxs=>xs.push x) (by simpa using O.r.append (.cons r1 .nil))
 exact hK st.1 (N1.trans (st.2 _)).wr (F.nx (N1.trans (st.2 _))) q.2
def pI(K:ItK C)(tgt:AF)(t:TF)(bf:Lo->MH->LK->Prop):Nat->K.σ->Lo->MH->LK->Prop
 |0,_,_,_,_=>fe
 |n+1,it,lo,H,Q=>K.nx it H λres H1=>match res with
  |none=>Q lo H1
  |some p=>tgt p.1 lo H1 λlo1 H2=>t lo1 H2 λb H3=>bif b then bf lo1 H3 (λlo2 H4=>pI K tgt t bf n p.2 lo2 H4 Q) else pI K tgt t bf n p.2 lo1 H3 Q
inductive CEnd(C:Cx)(env:Env)(ρ0:ac Lc)(s0:ak)(ai:Nat)(l:Lc)(Q:LK)(s':ak):Prop
 |mk {ρ':ac Lc}{lo':Lo}{H':MH} (S:Sim C H' ρ' s') (N:Nx ρ0 (LW env) s0 ρ' s') (F:Fm C env ρ' s' lo') (hl:ρ'[ai]? =aa l) (q:Q lo' H'):CEnd C env ρ0 s0 ai l Q s'
def o9(C:Cx)(env:Env)(ρ0:ac Lc)(s0:ak)(ai:Nat)(l:Lc)(Q:LK):qk->ak->Prop
 | .ok _,s'=>CEnd C env ρ0 s0 ai l Q s'
 | .error _,_=>fe
theorem qM{K:ItK C}(hg:gens[d]? =aa ⟨target,iter,ifs,0⟩)(ht:ALV C r env target tgt)(hc:CnV C r env ifs t)(hb:BV C r env elt gens sc pos d bf)(htg:K.tg target/\K.need<=r):∀ (n:Nat){A:ef}{s0 s:ak}{ρ0 ρ:ac Lc}{H:MH}{lo:Lo}{it:K.σ}{x:au}{X:bz->Prop}{Q:LK},Room r A->ρ[ai]? =aa l->Nx ρ0 (LW env) s0 ρ s->Sim C H ρ s->Fm C env ρ s lo-> K.rel ρ s it x X->Apart C env ρ s0 X->pI K tgt t (bf ai) n it lo H Q-> kr C.M A (.compLoop (.ListComp elt gens sc pos) d x (.ref l.a) env) (o9 C env ρ0 s0 ai l Q) s:=λk=>by
 induction k with
 |zero=>
  intro _ _ _ _ _ _ _ _ _ _ _ _ _ _ _ _ _ _ e
  exact e.elim
 |succ n ih=>
  intro A s0 s ρ0 ρ H lo it x X Q hr hl N S F R hX e
  refine mc (rwL (Around.under_of_weight rfl rfl) (og (dv (E:=NoE) ?_ (λ_ _ z=>z) (λ_ _ z=>z.elim))))
  delta compTurn
  simp only[hg]
  refine zzB (dw (zzB (wmN (K.next htg.2 hr S R hX.two e) λo s1 p=>?_)))
  cases p with
  |done S1 I1 q=>exact zzP ⟨S1,N.stepI I1 (λb q=>(hX b q).1),F.nextI I1 (λb hw q=>(hX b q).2.2.2 hw),aQ I1.pre hl,q⟩
  |item S1 I1 ru R1 q=>
   have hX1:Apart C env _ s0 X:=λb q=>xE (K.alive R b q) λo' e'=>⟨(hX b q).1,I1.owns e' (hX b q).2.1,(hX b q).2.2⟩
   refine zzB (wmN (K.lgo hr S1 R1 htg.1 hX1.two) λ_ s2 p=>(xAA p λS2 I2 R2=>?_))
   have fin:∀ {ρ5 s5 lo5 H5},Sim C H5 ρ5 s5->Nx _ (LW env) s2 ρ5 s5->Fm C env ρ5 s5 lo5->pI K tgt t (bf ai) n _ lo5 H5 Q->
     kr C.M A (.compLoop (.ListComp elt gens sc pos) d x (.ref l.a) env) (o9 C env ρ0 s0 ai l Q) s5:=λS5 N5 F5 e5=>
    ih hr (aQ N5.pre (aQ I1.pre hl)) (((N.stepI I1 (λb q=>(hX b q).1)).stepI I2 (λb q=>(hX b q).1)).trans N5) S5 F5 (K.mono R2 N5.pre N5.imm (λb o q e'=>N5.kp b o e' (hX1 b q).2.1 (λz=>(hX b q).2.2.2 (.inl z))))
     (λb z=>xE (K.alive R2 b z) λo' e'=>⟨(hX b z).1,N5.own e' (hX1 b z).2.1,(hX b z).2.2⟩) e5
   refine zzB (eL.run (α:=ur) (ht hr S2 ((F.nextI I1 (λb hw q=>(hX b q).2.2.2 hw)).nextI I2 (λb hw q=>(hX1 b q).2.2.2 hw)) (ru.mono I2.pre I2.imm) q) λS3 N3 F3 q=>zzB (wmN (hc hr S3 F3 q) λok s4 p=>?_))
   obtain⟨S4,N4,q⟩:=p
   have N34:=N3.trans N4.wr
   cases ok with
   |false=>
    exact rwL (aq (by decide)) (zzP ⟨rfl,fin S4 N34 (F3.nx N4) q⟩)
   |true=>
    exact rwL (aw rfl) (hb hr S4 (F3.nx N4) (aQ N34.pre (aQ I1.pre hl)) q λS5 N5 F5 q=>zzP ⟨rfl,fin S5 (N34.trans N5) F5 q⟩)
theorem kN{K:ItK C}(hg:gens[d]? =aa ⟨target,iter,ifs,0⟩)(hre:iH K)(ht:ALV C r env target tgt)(hc:CnV C r env ifs t)(hb:BV C r env elt gens sc pos d bf)(htg:K.tg target/\K.need<=r)(n:Nat){it:K.σ}(hr:Room r A)(hl:ρ[ai]? =aa l)(N:Nx ρ0 (LW env) s0 ρ s)(S:Sim C H ρ s)(F:Fm C env ρ s lo)(R:K.rel ρ s it x X)(hX:Apart C env ρ s0 X)(e:pI K tgt t (bf ai) n it lo H Q):kr C.M A (.compStart (.ListComp elt gens sc pos) d x (.ref l.a) env) (o9 C env ρ0 s0 ai l Q) s:=by
 have L:=qM hg ht hc hb htg n hr hl N S F R hX e
 have hnx:∃ y,K.nx it H y:=by
  cases n with
  |zero=>exact e.elim
  |succ n=>exact⟨_,e⟩
 refine mc (rwL (Around.under_of_weight rfl rfl) (og (dv (E:=NoE) ?_ (λ_ _ z=>z) (λ_ _ z=>z.elim))))
 delta compStart
 refine rwL (rfl:clausesOf (.ListComp elt gens sc pos)=gens) (rwL hg (zzB (wpAny_askSetting (wpAny_ite ?_))))
 split
 ·first
   |exact zzB (zzP (zzP (And.intro rfl L)))
   |exact zzP (And.intro rfl L)
 ·exact zzB (pp (zzB (dw (zzB (hre S hnx R (zzP (And.intro rfl L)))))))
theorem aE8{K:ItK C}{s2:ak}(F:Fm C env ρ s lo)(hX:∀ b,X b->s.heap.get? b=none/\¬Own ρ2 b/\C.base.heap.get? b=none):Apart C env ρ2 s X:=λb q=>
 ⟨(hX b q).1,(hX b q).2.1,(hX b q).2.2,λhw=>by refine xE (F.alv b hw) λo e'=>?_;cases (((hX b q).1)▸e')⟩
def bMore(K:ItK C)(fi:IF K)(tgt:AF)(t:TF)(bf:BF):BF:=λai lo H Q=>fi lo H λit H1=>∃ n,pI K tgt t (bf ai) n it lo H1 Q
theorem BV.more{K:ItK C}{fi:IF K}(hg:gens[d+1]? =aa ⟨target,iter,ifs,0⟩)(hre:iH K)(hi:IV K r env iter fi)(ht:ALV C r env target tgt)(hc:CnV C r env ifs t)(hb:BV C r env elt gens sc pos (d+1) bf)(htg:K.tg target/\K.need<=r)(hs:∀ x,gu iter env x=pure x):BV C r env elt gens sc pos d (bMore K fi tgt t bf):=by
 intro A s ρ H lo Q0 ai l Q K' hr S F hl q hK
 delta y5
 refine rwL hg (zzB (wmN (hi hr S F q) λx s1 h=>zzB (dw (rwL (aq (by simp)) (zzB (ja (hs x) (zzB (ax (rwL (aq (by simp)) (wmN h λy s2 p=>zzB (wpAny_runOwn ?_)))))))))))
 obtain⟨S2,N2,R2,hX,n,q⟩:=p
 refine jz (kN (ρ0:=ρ) hg hre ht hc hb htg n hr (aQ N2.pre hl) N2.wr S2 (F.nx N2) R2 (aE8 (K:=K) (s2:=s2) F hX) q) λrr s3 hL=>?_
 cases rr with
 |ok f=>obtain⟨S3,N3,F3,_,q⟩:=hL;exact hK S3 N3 F3 q
 |error _=>exact hL.elim
theorem aEs{s:ak}{pos:Pos}{use:ae (au->Sem ur)}(hcl:clausesOf e=g::gs)(hs:∀ x,gu g.iter env x=pure x)(K:lK env sc hid)(hcell:∀ p∈sc.names,p.2= .free->∃ c,env.cells.lookup p.1=aa c)(h:ar M A first (λx s₁=>ar M A (ut x) (λit s₂=>ar M A newAcc (λacc s₃=> ∀ h₄,h₄.Ns s₃.heap.objs.size (λ_=>none)->Heap.SameBut s₃.heap.objs.size (s₃.heap.push {cls:=.type "dict",data:=.dict #[]}) h₄->
    kr M A (.compStart e 0 it acc (gS env sc s₃.heap.objs.size)) (λr s'=>match r with
     | .ok _=>(∃ m,s'.heap.Ns s₃.heap.objs.size m)/\(match use with
      |none=>∀ h',Heap.SameBut s₃.heap.objs.size s'.heap h'->Q acc {s' with heap:=h'}
      |some u=>ar M A (u acc) (λ_ s''=>(∃ m,s''.heap.Ns s₃.heap.objs.size m)/\∀ h',Heap.SameBut s₃.heap.objs.size s''.heap h'->Q .none {s'' with heap:=h'}) E s')
     | .error _=>fe) {s₃ with heap:=h₄}) E s₂) E s₁) E s):
  ar M A (vt e sc env pos newAcc af first use) Q E s:=by
 delta vt
 refine rwL hcl ?_
 refine zzB (dv h (λx s₁ h₁=>zzB (dw (zzB (ja (hs x) (zzB (ax (dv h₁ (λit s₂ h₂=>
  wpAny_standIf (zzB (dv h₂ (λacc s₃ h₃=>?_) λ_ _ h'=>h'))) λ_ _ h'=>h'))))))) λ_ _ h'=>h')
 have hclo:∀ {Q':ac (Str×bz)->ak->Prop},Q' (iD env.cells sc.names []) s₃->ar M A (closureFor sc env) Q' E s₃:=by
  intro Q' hq
  delta closureFor
  refine zzB (j3 _ (λname kind cs=>by cases hkc:kind==NameKind.free<;>simp [hkc]) sc.names [] _ hcell (zzP hq))
 refine zzB (hclo (zzB (wpAny_newFunctionEnv (λx hx=>by simpa using (ie.mp K.nocell x hx)) (λx hx=>by cases hx) (λh₄ hn₄ hs₄=>?_) K.kind)))
 dsimp only
 have hv:∀ (vs:ac (Str×jx)),(∀ p∈vs,p∈sc.names)->∀ p∈vs,p.2= .local->(gS env sc s₃.heap.objs.size).kindOf p.1=aa .local:=λvs hvs p hp hl=>by
  have h1:=ie.mp K.hid p (hvs p hp)
  rw[hl]at h1
  simp at h1
  rw[jG,h1.1]
  rfl
 refine ax (zzB (ml (ax (wpAny_run (jz (h₃ h₄ hn₄ hs₄) λr s' hr=>?_)))))
 cases r with
 |error x=>exact hr.elim
 |ok f=>
  refine xA hr λz92 hq=>?_;obtain⟨m,hm⟩:=z92
  cases use with
  |none=>
   exact zzB (ax (wpAny_comp_letGo K.kind _ s' m (hv _ λp hp=>((tY.mp (List.mem_reverse.mp hp)).1)) hm λh' m' _ hs'=>zzP (hq h' hs')))
  |some u=>
   refine zzB (pp (zzB (ax (dv hq ?_ λ_ _ z=>z))))
   rintro _ s'' ⟨⟨m',hm'⟩,hq'⟩
   refine zzB (wpAny_comp_letGo K.kind _ s'' m' (hv _ λp hp=>(Or.elim (ij.mp hp) (λz=>((tY.mp (List.mem_reverse.mp (List.mem_of_mem_drop z))).1)) λz=>?_)) hm' λh' m' _ hs'=>zzP (hq' h' hs'))
   ·exact(tY.mp (List.mem_reverse.mp (List.mem_of_mem_take z))).1
def eX(K:ItK C)(hid:ac Str)(fi:IF K)(tgt:AF)(t:TF)(bf:BF):EF:=λlo H Q=>fi lo H λit H1=>∃ n,pI K tgt t (bf H1.length) n it (hide hid lo) (H1++[.list []]) λ_ H2=>Q (.ref H1.length) H2
inductive CoEnd(C:Cx)(ρ:ac Lc)(s:ak)(Q0:EK)(x:au)(L:bz)(s':ak):Prop
 |mk {ρ' v H'} (hL:s.heap.get? L=none) (S:Sim C H' ρ' s') (N:Nx ρ (λb=>b=L) s ρ' s') (r:VR ρ' s'.heap x v) (ho: ¬Own ρ' L) (hb:C.base.heap.get? L=none) (hm:∃ m,s'.heap.Ns L m) (q:Q0 v H'):CoEnd C ρ s Q0 x L s'
theorem qL{K:ItK C}{fi:IF K}(hsc:lK env sc hid)(hh:(hid.all λx=>sc.names.lookup x != aa .free)=ag)(hre:iH K)(hi:IV K r env iter fi)(ht:∀ L,ALV C r (gS env sc L) target tgt)(hc:∀ L,CnV C r (gS env sc L) ifs t)(hb:∀ L,BV C r (gS env sc L) elt (⟨target,iter,ifs,0⟩::gs) sc pos 0 bf)(htg:K.tg target/\K.need<=r)(hs:∀ x,gu iter env x=pure x)(hr:Room r A)(S:Sim C H ρ s)(F:Fm C env ρ s lo)(q:eX K hid fi tgt t bf lo H Q0)(hQ:∀ x L s',CoEnd C ρ s Q0 x L s'-> (match use with
    |none=>∀ h',Heap.SameBut L s'.heap h'->Q x {s' with heap:=h'}
    |some u=>ar C.M A (u x) (λ_ s''=>(∃ m,s''.heap.Ns L m)/\∀ h',Heap.SameBut L s''.heap h'->Q .none {s'' with heap:=h'}) NoE s')):
  ar C.M A (vt (.ListComp elt (⟨target,iter,ifs,0⟩::gs) sc pos) sc env p (newList []) af (iw iter env) use) Q NoE s:=by
 have hfc:∀ p∈sc.names,p.2= .free->∃ c,env.cells.lookup p.1=aa c:=λp hp hk=>by
  have h:=ie.mp hsc.free p hp
  rw[hk]at h
  exact iI (F.cl p.1 (.inl (pn h))) λc _ _ hc _=>⟨c,hc⟩
 refine aEs rfl hs hsc hfc (wmN (hi hr S F q) λx s1 hx=>wmN hx λy s2 p=>?_)
 obtain⟨S2,N2,R2,hX,n,q⟩:=p
 rename_i ρ2 X it H1
 refine wpAny_newList ?_ (by rw[dh];decide)
 have S3:=S2.alloc {cls:=.type "list",data:=.seq #[]} (.list []) ⟨rfl,rfl,#[],0,Heap.get?_push_size _ rfl,.nil⟩
 have N3:Nx ρ2 noW s2 _ _:=.alloc {cls:=.type "list",data:=.seq #[]}
 intro h4 hn4 hs4
 have keep4:∀ b o,(s2.heap.push {cls:=.type "list",data:=.seq #[]}).get? b=aa o->h4.get? b=aa o:=λb o e=>by
  exact rwL (hs4.2 b (qg (Heap.lt_size e))) (Heap.get?_push_of_some _ e)
 have N34:=N3.trans (.ext (k:=s2.toks) keep4)
 have hLf:(s2.heap.push {cls:=.type "list",data:=.seq #[]}).get? (s2.heap.push {cls:=.type "list",data:=.seq #[]}).objs.size=none:=bG _
 refine xA (Fm.comp hsc (λx hx=>by simpa using (ie.mp hh x hx)) S3 ((F.nx N2).nx N3) hLf hn4 (.ext (k:=s2.toks) keep4)) λF4 hW=>?_
 refine jz (kN (ρ0:=ρ) rfl hre (ht _) (hc _) (hb _) htg n hr (S2.last (l:=⟨s2.heap.objs.size,s2.heap.objs.size,none⟩)) (N2.trans N34).wr (S3.ext keep4) F4
  (K.mono R2 N3.pre N34.imm (λb o qb e'=>N34.kp b o e' (hX b qb).2.1 (λz=>z))) (λb qb=>?_) q) λrr s5 hL=>?_
 ·refine xE (K.alive R2 b qb) λo' e'=>⟨(hX b qb).1,N34.own e' (hX b qb).2.1,(hX b qb).2.2,λhw=>(Or.elim (hW b hw) (λz=>?_) λz=>?_)⟩
  ·refine xE (N3.al _ _ e') λo2 e2=>?_
   rw[z,hLf]at e2;cases e2
  ·refine xE (F.alv b z) λo e''=>?_;rw[(hX b qb).1]at e'';cases e''
 ·cases rr with
  |error _=>exact hL.elim
  |ok f=>
   obtain⟨S5,N5,F5,hl5,q5⟩:=hL
   exact xEA F5.ns λm5 hm5 _=>⟨⟨m5,hm5⟩,hQ _ _ s5 ⟨((c7 (N2.trans N3) S3 hLf).1),S5,N5,.ref hl5,(F5.own _ (.inl rfl)).1,(F5.own _ (.inl rfl)).2,⟨m5,hm5⟩,q5⟩⟩
theorem Sim.sameL(S:Sim C H ρ s)(hs:Heap.SameBut L s.heap h')(hm:∃ m,s.heap.Ns L m)(ho: ¬Own ρ L)(hb:C.base.heap.get? L=none):Sim C H ρ {s with heap:=h'}/\Imm s.heap h':=by
 refine qN hm λm o es ep g hd _=>?_
 have hi: ¬bB o:=by simp [bB,hd]
 exact⟨S.side hs g hi ho hb,dN hs g hi⟩
theorem Nx.gone(N1:Nx ρ (λb=>b=L\/W b) s ρ1 s1)(hL:s.heap.get? L=none)(hs':Heap.SameBut L s1.heap h')(im:Imm s1.heap h'):Nx ρ W s ρ1 {s1 with heap:=h'}:=by
 have ne:∀ {b o},s.heap.get? b=aa o->b≠L:=λe q=>by rw[q,hL]at e;cases e
 exact⟨N1.pre,N1.new,λb o e hb' hw=>(hs'.2 b (ne e)).trans (N1.kp b o e hb' λq=>q.elim (ne e) hw),N1.imm.trans im,λb o e=>xE (N1.al b o e) λo' e'=>⟨o',(hs'.2 b (ne e)).trans e'⟩⟩
theorem EV.comp{K:ItK C}{fi:IF K}(hsc:lK env sc hid)(hh:(hid.all λx=>sc.names.lookup x != aa .free)=ag)(hre:iH K)(hi:IV K r env iter fi)(ht:∀ L,ALV C r (gS env sc L) target tgt)(hc:∀ L,CnV C r (gS env sc L) ifs t)(hb:∀ L,BV C r (gS env sc L) elt (⟨target,iter,ifs,0⟩::gs) sc pos 0 bf)(htg:K.tg target/\K.need<=r)(hs:∀ x,gu iter env x=pure x):EV C r env (.ListComp elt (⟨target,iter,ifs,0⟩::gs) sc pos) (eX K hid fi tgt t bf):=by
 intro A s ρ H lo Q hr S F q
 rw[eval_ListComp]
 refine qL hsc hh hre hi ht hc hb htg hs hr S F q λx L s1 p h' hs'=>?_
 obtain⟨hL,S1,N1,r1,ho,hb,hm,q⟩:=p
 exact xA (S1.sameL hs' hm ho hb) λS2 im=>⟨S2,(N1.weaken λb q=>.inl q).gone hL hs' im,r1.mono (be _) im,q⟩
theorem SV.assignC{K:ItK C}{fi:IF K}(hk:env.kindOf x=aa .local)(hsw:qs (.ListComp elt (⟨target,iter,ifs,0⟩::gs) sc pos) (aa (.Name x pos')) spos.line env=pure ag)(hsc:lK env sc hid)(hh:(hid.all λx=>sc.names.lookup x != aa .free)=ag)(hre:iH K)(hi:IV K r env iter fi)(ht:∀ L,ALV C r (gS env sc L) target tgt)(hc:∀ L,CnV C r (gS env sc L) ifs t)(hb:∀ L,BV C r (gS env sc L) elt (⟨target,iter,ifs,0⟩::gs) sc pos 0 bf)(htg:K.tg target/\K.need<=r)(hs:∀ x,gu iter env x=pure x):SV C r env (.Assign [.Name x pos'] (.ListComp elt (⟨target,iter,ifs,0⟩::gs) sc pos) spos) (bF x (eX K hid fi tgt t bf)):=by
 refine λA s ρ H lo Q hr S F q=>(rwL (exec_Assign_Name_used _ _ _ _ hsw) (zzB (dw (zzB ?_))))
 rw[arm_evalThenUse_ListComp]
 refine zzB (qL hsc hh hre hi ht hc hb htg hs hr S F q λu L s1 p=>?_)
 obtain⟨hL,S1,N1,r1,ho,hbL,hm,q⟩:=p
 rename_i ρ2 v2 H2
 have hLW: ¬Wr env L:=λhw=>by refine xE (F.alv _ hw) λo e'=>?_;rw[hL]at e';cases e'
 refine sp (gV S1 (F.next N1 (λb hb e=>by subst e;refine xE (F.alv _ hb) λo e'=>?_;cases (hL▸e'))) r1 (sY (.inl hk)) λs2 S2 N2 F2=>(mT hm λm o es ep g hr'=>?_))
 have hm2:∃ m,s2.heap.Ns L m:=⟨m,o,es,ep,N2.kp L o g ho hLW,hr'⟩
 exact⟨hm2,λh' hs'=>zzP (zzP (xA (S2.sameL hs' hm2 ho hbL) λS3 im=>⟨S3,((N1.weaken λb q=>.inl q).trans (N2.weaken λb q=>.inr q)).gone hL hs' im,F2.nextI ⟨be _,λl hl=>by simp at hl,λb o e _ hne=>(hs'.2 b hne).trans e,im,λb o e hne=>⟨o,(hs'.2 b hne).trans e⟩⟩ (λb hb e=>by subst e;exact hLW hb),.next,q⟩))⟩
def Sg(M:xw)(A:ef)(c:Code)(t:Sem PySem.Fin)(fs:ac Frame)(Φ:End->ak->Prop)(s:ak):Prop:=∀ Γ p,Γ.code=c->Γ.Woken A->∃ e s',Runs M Γ p t fs s e s'/\Φ e s'
theorem hM{K:α->Sem PySem.Fin}{H:au->Sem PySem.Fin}{gd}{lv}(h:ar M (A.over c fs) m (λa s'=>Sg M A c (K a) fs Φ s') (λx s'=>Sg M A c (H x) fs Φ s') s):Sg M A c (m.wrap K H gd lv) fs Φ s:=by
 rintro Γ p rfl hΓ
 exact runs_wrap_of_wp K H gd lv m (h (Γ.over fs) p (hΓ.over fs)) (λa p' s' h'=>h' Γ p' rfl hΓ) (λx p' s' h'=>h' Γ p' rfl hΓ)
theorem aBi(h:Sg M A c (k ()) fs Φ s):Sg M A c (.at p' k) fs Φ s:=hM (H:=.raise) (gd:=id) (lv:=id) (dw h)
theorem aBg(h:Sg M A c (k ()) fs Φ s):Sg M A c (.point l k) fs Φ s:=hM (H:=.raise) (gd:=id) (lv:=λ_=>l) (wpAny_point h)
theorem aF0{h}{g}{l}(hc:∀ p,Sg M A c' (M.den c') (.ret k h g l c p []::fs) Φ s):Sg M A c (.call c' h g l k) fs Φ s:=by
 rintro Γ p rfl hΓ
 exact iQ (hc p (Γ.goto c') p rfl (hΓ.goto c')) λe s' hr he=>⟨e,s',runs_call_seg hr,he⟩
theorem aFz{k}{h}{g}{l}{c₁}{p₁}{kp}(r:qk)(hk:Sg M A c₁ (k r) fs Φ s):Sg M A c (leafOf r) (.ret k h g l c₁ p₁ kp::fs) Φ s:=by
 rintro Γ p rfl hΓ
 exact iQ (hk (Γ.goto c₁) p₁ rfl (hΓ.goto c₁)) λe s' hr he=>⟨e,s',Runs.pop r hr,he⟩
theorem mZ(hq:c'.quiet=ag)(hc:Sg M A c' (M.den c') fs Φ s):Sg M A c (.pure (.again c')) fs Φ s:=by
 rintro Γ p rfl hΓ
 exact iQ (hc (Γ.goto c') p rfl (hΓ.goto c')) λe s' hr he=>⟨e,s',Runs.head (λ_ _ x=>.again hq x) hr,he⟩
theorem aBh(r:qk)(h:Φ (.ret r) s):Sg M A c (leafOf r) [] Φ s:=by
 rintro Γ p rfl _
 exact⟨.ret r,s,Runs.leaf r,h⟩
theorem aBd{v}{g}{l}(hfs:splitAtGen fs=none)(h:∀ p,Φ (.susp v g l k c p fs) s):Sg M A c (.yield v g l k) fs Φ s:=by
 rintro Γ p rfl _
 exact⟨_,s,Runs.yield' fs hfs,h p⟩
def aFd(M:xw)(A:ef)(Φ:End->ak->Prop)(r:Resume)(s:ak):qd->Prop
 | .fresh c=>r= .send .none/\Sg M A c (M.den c) [] Φ s
 | .suspended k₀ _ c _ fs _=>Sg M A c (k₀ r) fs Φ s
 |_=>fe
theorem vE{Q:α->ak->Prop}(hg:s.gens[g]? =aa gs)(hgo:aFd M A Φ r (s.setGen g .running) gs)(hq:∀ e s₁,Φ e s₁->e.quiet=ag/\ar M A (k e.result) Q E (s₁.setGen g e.genState)):ar M A (.resume g r l k) Q E s:=by
 intro Γ p hΓ
 rw[Sem.wp_resume]
 cases gs with
 |fresh c=>
  refine xA hgo λz93 hs=>?_;subst z93
  exact iQ (hs (Γ.wake c p) p rfl ((λc=>hΓ.wake c p) c)) λe₁ s₁ hr he=>⟨_,_,by delta Wakes;exact rwL hg ⟨e₁,s₁,hr,(hq e₁ s₁ he).1,rfl,rfl⟩,(hq e₁ s₁ he).2 Γ p hΓ⟩
 |suspended k₀ l₀ c₀ p₀ fs₀ cl=>
  exact iQ (hgo (Γ.wake c₀ p) p₀ rfl ((λc=>hΓ.wake c p) c₀)) λe₁ s₁ hr he=>⟨_,_,by delta Wakes;exact rwL hg ⟨e₁,s₁,hr,(hq e₁ s₁ he).1,rfl,rfl⟩,(hq e₁ s₁ he).2 Γ p hΓ⟩
 |running=>exact hgo.elim
 |finished=>exact hgo.elim
theorem cT{K:xc->Sem PySem.Fin}{H:au->Sem PySem.Fin}{st:jb}(h:Sg M A c ((exec st env).wrap (λf=>match f with | .next=>(oq rest env).wrap K H gd lv |f=>K f) H gd lv) fs Φ s):Sg M A c ((oq (st::rest) env).wrap K H gd lv) fs Φ s:=by rw[ul];exact h
theorem jK{K:xc->Sem PySem.Fin}{H:au->Sem PySem.Fin}(hfs:splitAtGen fs=none)(hgd:gd af=af)(h:ar M (A.over c fs) (iw e env) (λv s'=>∀ l k p,k (.send .none)=K .next->Φ (.susp v af l k c p fs) s') (λx s'=>Sg M A c (H x) fs Φ s') s)(hco:env.scope.isCoroutine=af)(hi:qh env=af):Sg M A c ((exec (.Expr (.Yield (aa e) ypos) pos) env).wrap K H gd lv) fs Φ s:=by
 rw[exec_Expr env _ pos hi rfl]
 show Sg M A c (.at pos λ_=>((iw e env >>=λv=>(xd ypos >>=λ_=>yieldOut env v)) >>=λx=>
  dropValue (.Yield (aa e) ypos) pos x).wrap K H gd lv) fs Φ s
 simp only[(λv=>by simp only[yieldOut,hco,jd,jw]:∀ v,yieldOut env v=yieldValue v)]
 refine aBi ?_
 rw[Sem.bind_eq_wrap',Sem.bind_eq_wrap',Sem.wrap_wrap,Sem.wrap_wrap]
 exact hM (dv h (λv s' h'=>(aBi (aBd hfs λp=>(hgd▸(λl k p hk=>h' l k p hk)) _ _ p rfl))) λ_ _ x=>x)
theorem sg_If{K:xc->Sem PySem.Fin}{H:au->Sem PySem.Fin}(h:ar M (A.over c fs) (isTrue test env (iw test env)) (λb s'=>if b=ag then Sg M A c ((oq b1 env).wrap K H gd lv) fs Φ s' else Sg M A c ((oq b2 env).wrap K H gd lv) fs Φ s') (λx s'=>Sg M A c (H x) fs Φ s') s):Sg M A c ((exec (.If test b1 b2 pos) env).wrap K H gd lv) fs Φ s:=by
 rw[exec_If]
 show Sg M A c (.at _ λ_=>(isTrue test env (iw test env) >>=λb=>if b=ag then oq b1 env else oq b2 env).wrap K H gd lv) fs Φ s
 refine aBi ?_
 rw[Sem.bind_eq_wrap',Sem.wrap_wrap]
 refine hM (dv h (λb s' hb=>?_) λ_ _ x=>x)
 cases b with
 |true=>exact hb
 |false=>exact hb
theorem mE{items}(hh:A.handled=none)(hit:s.heap.IsListIter it l i)(hl:s.heap.IsList l items)(hx:items[i]? =none)(hQ:∀ h' o',h'.get? it=aa o'->¬bB o'->Heap.ExtBut it s.heap h'->Q none {s with heap:=h'}):ar (gz prog w) A (mx (.ref it)) Q E s:=by
 refine cX (id hit) λo ho hc hd=>wW hl λol hol _ nl hdl=>?_
 delta mx
 refine zzB (ml (dm hit.typeIs jy
  (eo jy hit.typeIs qr ?_ (rh _))))
 show ar _ _ (field (.ref it) 0 >>=_) _ _ s
 refine zzB (hB ho hd (x:=.ref l) rfl (rwL (aq (show¬((Value.ref l==Value.none)=ag) from Bool.false_ne_true)) (zzB (hB ho hd rfl (zzB (iq hol hdl ?_))))))
 simp only[ii,hx]
 refine zzB (pp (zzB (pe ho hd (by simp) (zzB (zzB (dp (zzB (ja (a:=Value.none) (by first |rfl | (rfl)) (dp ?_ (by size_fits)))) (by size_fits)))))))
 delta raiseNew;refine zzB (sv (rwL (show A.in1.handled=none from hh) (zzB (zzP (uy ?_)))))
 refine zzB (lq ⟨_,Heap.get?_push_size _ rfl,rfl⟩ ri ?_)
 have hd':=Obj.data_mapFields hd (·.setIfInBounds 0 Value.none)
 refine zzP (hQ _ _ (Heap.get?_push_of_some _ (Heap.get?_push_of_some _ (Heap.get?_update_self _ ho (Obj.isFreed_of_fields hd')))) ?_ (((Heap.SameBut.update ..).extBut.push _).push _))
 simp [bB,hd',((Obj.cls_mapFields o (·.setIfInBounds 0 Value.none)).trans hc)]
def MO.iv:MO->ae (Nat×Nat) | .itr (aa p)=>aa p |_=>none
theorem iv_mo(e:m.bind MO.iv=aa p):m=aa (.itr (aa p)):=by
 refine xEA (aj.mp e) λm z94 h2=>rwL z94 ?_
 cases m with
 |itr o=>cases o with
  |none=>cases h2
  |some q=>refine cxS h2 ?_;rfl
 |_=>cases h2
inductive ItrN(C:Cx)(H:MH)(ρ:ac Lc)(s:ak)(j ci k:Nat)(vs:ac V):ae au->ak->Prop
 |item {u v s'} (hv:vs[k]? =aa v) (S:Sim C (H.set j (.itr (aa (ci,k+1)))) ρ s') (N:∀ W,Nx ρ W s ρ s') (r:VR ρ s'.heap u v):ItrN C H ρ s j ci k vs (aa u) s'
 |done {s'} (hv:vs[k]? =none) (S:Sim C (H.set j (.itr none)) ρ s') (N:∀ W,Nx ρ W s ρ s'):ItrN C H ρ s j ci k vs none s'
theorem aDa(hr:Room r A)(S:Sim C H ρ s)(hl:ρ[j]? =aa l)(hH:H[j]? =aa (.itr (aa (ci,k))))(hv:lst H (.ref ci)=aa vs):ar C.M A (mx (.ref l.a)) (ItrN C H ρ s j ci k vs) NoE s:=by
 refine pS (S.objs j _ l hH hl) λg1 g2 li hli hit=>bZ (cJ S (.ref hli) hv) λad xs q1 q2 q3=>?_
 cases q1
 refine cX (id hit) λo h2 h3 h4=>?_
 cases hvk:vs[k]? with
 |some v=>
  refine xEA (q3.get hvk) λu hu ru=>oy hit q2 (by simpa using hu) λh' hit2 hs=>?_
  have st:=S.put (k:=s.toks) (h':=h') (m':=.itr (aa (ci,k+1))) hl hH g1 h2 (rK h3 h4) hs (xEA hit2 λo2 e2 _=>⟨o2,e2⟩) (by intro _ h;cases h) (by intro _ h;cases h) λim=>⟨g1,g2,li,hli,hit2⟩
  exact .item hvk st.1 st.2 (ru.nx (st.2 noW))
 |none=>
  refine mE hr.1 hit q2 (Array.getElem?_eq_none (by exact rwL q3.sz (getElem?_eq_none_iff.mp hvk))) λh' o' e' hi' he=>?_
  have im:Imm s.heap h':=λb x e i=>by
   by_cases q:b=l.a
   ·subst q;refine cyS (h2▸e) λzq=>?_;subst zq;exact ba i (rK h3 h4)
   ·exact he b x q e
  refine .done hvk (S.upd hl hH (by intro _ h;cases h) (λb o e hb=>he b o (λq=>hb (.inl q)) e) im rfl rfl ⟨g1,g2,o',e',hi'⟩ (by intro _ h;cases h))
   λW=>⟨be _,λl hl=>by simp at hl,λb x e ho _=>he b x (λq=>ho (q▸⟨l,dc hl,.inl rfl⟩)) e,im,λb x e=>?_⟩
  by_cases q:b=l.a
  ·exact rwL q ⟨o',e'⟩
  ·exact⟨x,he b x q e⟩
structure GSh where
 fd:ux
 fa:bz
 pre:ac jb
 target:Expr
 iter:Expr
 cond:Expr
 ye:Expr
 cond2:Expr
 ye2:Expr
 s1:jb
 s3:jb
 s2:ac jb
 p1:Pos
 p2:Pos
 p3:Pos
 p4:Pos
 p5:Pos
 p6:Pos
 p7:Pos
namespace GSh
def yst(G:GSh):jb:=.Expr (.Yield (aa G.ye) G.p1) G.p2
def yst2(G:GSh):jb:=.Expr (.Yield (aa G.ye2) G.p3) G.p4
def lb(G:GSh):ac jb:=[.If G.cond (G.s1::G.yst::G.s2) [] G.p5,G.s3]
def if2(G:GSh):jb:=.If G.cond2 [G.yst2] [] G.p6
def tail(G:GSh):ac jb:=[.For G.target G.iter G.lb [] G.p7,G.if2]
def body(G:GSh):ac jb:=G.pre++G.tail
def envL(G:GSh)(L:bz):Env:=fh G.fd L G.fa
def Kf:xc->Sem PySem.Fin:=λf=>.pure (.done (.ret (match f with | .ret v=>v |_=>.none)))
def Hf(env:Env):au->Sem PySem.Fin:=λe=>(leaving env e).wrap (λ_=>.raise e) .raise id id
def Ka(G:GSh)(env:Env):xc->Sem PySem.Fin:=λf=>match f with | .next=>(oq [G.if2] env).wrap Kf (Hf env) id id |f=>Kf f
def fs1(G:GSh)(env:Env)(p:Pos):ac Frame:=[.ret (λr=>((match r with | .ok f=>(.pure f:Sem xc) | .error e=>.raise e).onRaise fun(x:au)=>do
    if (<-field x 1)==Value.none then uz "frame.own-activation:exception-without-traceback"
    setFlight x env.frame).wrap (G.Ka env) (Hf env) id id) none af [] (.func G.body env) p []]
def loopC(G:GSh)(env:Env)(x:au):Code:=.forLoop G.target x G.lb [] env
def Kt(G:GSh)(env:Env)(x:au):xc->Sem PySem.Fin:=λf=>match f with
 | .next | .cont=>.pure (.again (G.loopC env x))
 | .brk=>.pure (.done .next)
 | .ret v=>.pure (.done (.ret v))
def Ht(env:Env):au->Sem PySem.Fin:=λe=>(do noteFrame e env;um e:Sem ur).wrap (λ_=>.raise e) .raise id id
def K1(G:GSh)(env:Env)(x:au):xc->Sem PySem.Fin:=λf=>match f with | .next=>(oq [G.s3] env).wrap (G.Kt env x) (Ht env) id id |f=>G.Kt env x f
def T1(G:GSh)(env:Env)(x:au):Sem PySem.Fin:=(oq G.s2 env).wrap (G.K1 env x) (Ht env) id id
end GSh
theorem dZ{f:α->Sem β}{K:β->Sem PySem.Fin}{H:au->Sem PySem.Fin}(h:ar M (A.over c fs) m (λa s'=>Sg M A c ((f a).wrap K H gd lv) fs Φ s') (λx s'=>Sg M A c (H x) fs Φ s') s):Sg M A c ((m >>=f).wrap K H gd lv) fs Φ s:=by
 rw[Sem.bind_eq_wrap',Sem.wrap_wrap]
 exact hM h
theorem f8{K:xc->Sem PySem.Fin}{H:au->Sem PySem.Fin}:∀ (a b:ac jb),(oq (a++b) env).wrap K H id id=(oq a env).wrap (λf=>match f with | .next=>(oq b env).wrap K H id id |f=>K f) H id id:=λn=>by
 induction n with
 |nil=>
  exact λb=>rfl
 |cons st a ih=>
  intro b
  rw[ss,ul,ul]
  refine Sem.wrap_congr _ _ _ (λf=>?_) (λ_=>rfl)
  cases f with
  |next=>exact ih b
  |_=>rfl
inductive kQ where
 |yl (it:Nat) (lo:Lo) (v:V)
 |yr (lo:Lo) (v:V)
 |done
structure GFn where
 pre:SF
 it:EF
 tgt:AF
 fc:TF
 f1:SF
 fy:EF
 f2:SF
 f3:SF
 fc2:TF
 fy2:EF
namespace GFn
def tail(g:GFn)(lo:Lo)(H:MH)(Q:kQ->MH->Prop):Prop:=g.fc2 lo H λb H2=>bif b then g.fy2 lo H2 λv H3=>Q (.yr lo v) H3 else Q .done H2
def nextK(k:Lo->MH->Prop):SK:=λfl lo H=>match fl with | .next=>k lo H |_=>fe
section
variable(g:GFn)
def loopN:Nat->Nat->Lo->MH->(kQ->MH->Prop)->Prop
 |0,_,_,_,_=>fe
 |n+1,it,lo,H,Q=>Lf (H[it]?.bind MO.iv) λp=>Lf (lst H (.ref p.1)) λvs=>match vs[p.2]? with
  |some v=>g.tgt v lo (H.set it (.itr (aa (p.1,p.2+1)))) λlo1 H1=>g.fc lo1 H1 λb H2=>
    bif b then g.f1 lo1 H2 (nextK λlo2 H3=>g.fy lo2 H3 λv H4=>Q (.yl it lo2 v) H4)
    else g.f3 lo1 H2 (nextK λlo2 H3=>loopN n it lo2 H3 Q)
  |none=>g.tail lo (H.set it (.itr none)) Q
end
section
variable(g:GFn)
def loop(it:Nat)(lo:Lo)(H:MH)(Q:kQ->MH->Prop):Prop:=∃ n,g.loopN n it lo H Q
end
def start(g:GFn)(lo:Lo)(H:MH)(Q:kQ->MH->Prop):Prop:=g.pre lo H (nextK λlo1 H1=>g.it lo1 H1 λa H2=>Lf a.rf λci=>(∃ vs,lst H2 (.ref ci)=aa vs)/\g.loop H2.length lo1 (H2++[.itr (aa (ci,0))]) Q)
def more(g:GFn)(it:Nat)(lo:Lo)(H:MH)(Q:kQ->MH->Prop):Prop:=g.f2 lo H (nextK λlo1 H1=>g.f3 lo1 H1 (nextK λlo2 H2=>g.loop it lo2 H2 Q))
end GFn
structure GV(C:Cx)(r:Nat)(G:GSh)(g:GFn)(env:Env):Prop where
 pre:SVs C r env G.pre g.pre
 it:EV C r env G.iter g.it
 tgt:AV C r env G.target g.tgt
 fc:TV C r env G.cond g.fc
 f1:SV C r env G.s1 g.f1
 fy:EV C r env G.ye g.fy
 f2:SVs C r env G.s2 g.f2
 f3:SV C r env G.s3 g.f3
 fc2:TV C r env G.cond2 g.fc2
 fy2:EV C r env G.ye2 g.fy2
 hs:∀ x,gu G.iter env x=pure x
 co:env.scope.isCoroutine=af
 ia:qh env=af
inductive GΦ(C:Cx)(G:GSh)(env:Env)(ρ0:ac Lc)(s0:ak)(Q:kQ->MH->Prop):End->ak->Prop
 |yl {ρ1 H1 it lo v li u l k p p' s'} (S:Sim C H1 ρ1 s') (N:Nx ρ0 (Wr env) s0 ρ1 s') (hk:k (.send .none)=G.T1 env (.ref li.a)) (hli:ρ1[it]? =aa li) (r:VR ρ1 s'.heap u v) (F:Fm C env ρ1 s' lo) (q:Q (.yl it lo v) H1):
   GΦ C G env ρ0 s0 Q (.susp u af l k (G.loopC env (.ref li.a)) p (G.fs1 env p')) s'
 |yr {ρ1 H1 lo v u l k p s'} (S:Sim C H1 ρ1 s') (N:Nx ρ0 (Wr env) s0 ρ1 s') (hk:k (.send .none)=GSh.Kf .next) (r:VR ρ1 s'.heap u v) (F:Fm C env ρ1 s' lo) (q:Q (.yr lo v) H1):GΦ C G env ρ0 s0 Q (.susp u af l k (.func G.body env) p []) s'
 |done {ρ1 H1 s'} (S:Sim C H1 ρ1 s') (N:Nx ρ0 (Wr env) s0 ρ1 s') (o:∃ o,s'.heap.get? env.locals=aa o/\¬bB o) (q:Q .done H1):GΦ C G env ρ0 s0 Q (.ret (.ok (.ret .none))) s'
theorem Room.overF{b:ac jb}(hr:Room (r+1) A):Room r (A.over (.func b e) []):=by
 refine xAA hr λh1 h2 h3=>⟨h1,(rwL (rfl:(Code.func b e).weight=1) (A34 h2):A.depth+0+(Code.func b e).weight+10*r<=700),?_⟩
 ·exact(rwL (rfl:(Code.func b e).cUnits=3) (A35 h3):A.units+0+(Code.func b e).cUnits+40*r<=8000)
theorem Room.overL{G:GSh}(hr:Room (r+1) A):Room r (A.over (G.loopC e x) (G.fs1 e p)):=by
 refine xAA hr λh1 h2 h3=>⟨h1,(A36 h2:A.depth+(1+0)+0+10*r<=700),?_⟩
 ·exact(A37 h3:A.units+(3+0)+0+40*r<=8000)
theorem Fm.locals(F:Fm C env ρ s lo):∃ o,s.heap.get? env.locals=aa o/\¬bB o:=by
 refine xEA F.ns λm z95 _=>?_;obtain⟨o,es,ep,g,hd,_⟩:=z95
 exact⟨o,g,by delta bB;exact rwL hd id⟩
theorem aDg(V:GV C r G g env)(hr:Room (r+1) A)(N:Nx ρ0 (Wr env) s0 ρ s)(S:Sim C H ρ s)(F:Fm C env ρ s lo)(e:g.tail lo H Q):Sg C.M A (.func G.body env) ((oq [G.if2] env).wrap GSh.Kf (GSh.Hf env) id id) [] (GΦ C G env ρ0 s0 Q) s:=cT (sg_If (TV.run V.fc2 hr.overF S F e λ{b s1 _ _} S1 N1 e=>by
  cases b with
  |true=>
   exact rwL (aw rfl) (cT (jK rfl rfl (EV.run V.fy2 hr.overF S1 (F.nx N1) e λS2 N2 r2 q l k p hk=>.yr S2 ((N.trans N1.wr).trans N2.wr) hk r2 ((F.nx N1).nx N2) q) V.co V.ia))
  |false=>
   exact rwL (aq (by decide)) (aBh (.ok (.ret .none)) (.done S1 (N.trans N1.wr) (F.nx N1).locals e))))
theorem aBf{st:jb}{K:xc->Sem PySem.Fin}(V:SV C r env st f)(hr:Room r (A.over c fs))(S:Sim C H ρ s)(F:Fm C env ρ s lo)(e:f lo H (GFn.nextK k))(h:∀ {s1 ρ1 H1 lo1},Sim C H1 ρ1 s1->Nx ρ (Wr env) s ρ1 s1->Fm C env ρ1 s1 lo1->k lo1 H1->Sg C.M A c ((oq rest env).wrap K Hh id id) fs Φ s1):Sg C.M A c ((oq (st::rest) env).wrap K Hh id id) fs Φ s:=cT (hM (wmN (V hr S F e) λfw s1 p=>by
  obtain⟨S1,N1,F1,r1,q⟩:=p
  cases r1 with
  |next=>exact h S1 N1 F1 q
  |brk=>exact q.elim
  |cont=>exact q.elim
  |ret _=>exact q.elim))
theorem aBe{st:ac jb}{K:xc->Sem PySem.Fin}(V:SVs C r env st f)(hr:Room r (A.over c fs))(S:Sim C H ρ s)(F:Fm C env ρ s lo)(e:f lo H (GFn.nextK k))(h:∀ {s1 ρ1 H1 lo1},Sim C H1 ρ1 s1->Nx ρ (Wr env) s ρ1 s1->Fm C env ρ1 s1 lo1->k lo1 H1->Sg C.M A c (K .next) fs Φ s1):Sg C.M A c ((oq st env).wrap K Hh id id) fs Φ s:=hM (wmN (V hr S F e) λfw s1 p=>by
  obtain⟨S1,N1,F1,r1,q⟩:=p
  cases r1 with
  |next=>exact h S1 N1 F1 q
  |brk=>exact q.elim
  |cont=>exact q.elim
  |ret _=>exact q.elim)
theorem nK(V:GV C r G g env):∀ (n:Nat){A:ef}{s0 s:ak}{ρ0 ρ:ac Lc}{H:MH}{lo:Lo}{Q:kQ->MH->Prop},Room (r+1) A->Nx ρ0 (Wr env) s0 ρ s->Sim C H ρ s->Fm C env ρ s lo->ρ[it]? =aa li-> g.loopN n it lo H Q->Sg C.M A (G.loopC env (.ref li.a)) (C.M.den (G.loopC env (.ref li.a))) (G.fs1 env p) (GΦ C G env ρ0 s0 Q) s:=λn=>by
 induction n with
 |zero=>
  intro _ _ _ _ _ _ _ _ _ _ _ _ _ e
  exact e.elim
 |succ n ih=>
  intro A s0 s ρ0 ρ H lo Q hr N S F hli e
  show Sg C.M A _ ((forTurn G.target (.ref li.a) G.lb [] env).onRaise (λx=>do noteFrame x env;um x)) _ _ s
  rw[Sem.onRaise_eq_wrap]
  have eH:(λe=>(do noteFrame e env;um e:Sem ur).bind λ_=>(.raise e:Sem PySem.Fin))=GSh.Ht env:=by
   funext e
   exact Sem.bind_eq_wrap _ _
  rw[eH]
  delta forTurn
  refine dZ (dw (e.elim λck hH e=>e.elim λvs hv e=>dZ (og (wmN (aDa hr.overL S hli (iv_mo hH) hv) λo s1 m1=>?_))))
  cases m1 with
  |item hvk S1 N1 ru=>
   rw[hvk]at e
   obtain⟨_,_,lc,_,oi,hoi,hci,_⟩:=S1.objs it _ li (by rw[bn (List.getElem?_eq_some_iff.mp (iv_mo hH)).1]) hli
   show Sg C.M A _ ((uk G.target (.ref li.a) _ >>=λ_=>(vy G.target env _ >>=λ_=>(oq G.lb env >>=λf=>match f with
    | .next | .cont=>again (.forLoop G.target (.ref li.a) G.lb [] env)
    | .brk=>pure (.done .next)
    | .ret v=>pure (.done (.ret v))))).wrap .pure (GSh.Ht env) id id) _ _ s1
   refine dZ (jD hoi hci (by decide) (dZ (eL.run (α:=ur) (V.tgt hr.overL S1 (F.nx (N1 _)) ru e) λ{_ s2 _ _ _} S2 N2 F2 e=>?_)))
   rw[Sem.bind_eq_wrap',Sem.wrap_wrap]
   refine(bg (λt=>Sg C.M A (G.loopC env (.ref li.a)) t (G.fs1 env p) (GΦ C G env ρ0 s0 Q) s2) (Sem.wrap_congr (K':=G.Kt env (.ref li.a)) (H':=GSh.Ht env) (oq G.lb env) _ _ (λf=>by cases f<;>rfl) (λ_=>rfl))).mpr ?_
   have N02:=(N.trans (N1 _)).trans N2
   refine cT (sg_If (TV.run V.fc hr.overL S2 F2 e λ{b s3 _ _} S3 N3 e=>?_))
   cases b with
   |true=>
    rw[aw rfl]
    exact aBf V.f1 hr.overL S3 (F2.nx N3) e λS4 N4 F4 e=>cT (jK rfl rfl (EV.run V.fy hr.overL S4 F4 e λS5 N5 r5 q l k p' hk=>
     .yl S5 (((N02.trans N3.wr).trans N4).trans N5.wr) hk (aQ N5.pre (aQ N4.pre (aQ N3.pre (aQ N2.pre hli)))) r5 (F4.nx N5) q) V.co V.ia)
   |false=>
    exact rwL (aq (by decide)) (aBf V.f3 hr.overL S3 (F2.nx N3) e λS4 N4 F4 e=>mZ rfl (ih hr ((N02.trans N3.wr).trans N4) S4 F4 (aQ N4.pre (aQ N3.pre (aQ N2.pre hli))) e))
  |done hvk S1 N1=>
   rw[hvk]at e
   exact mZ rfl (aFz (.ok .next) (aDg V hr (N.trans (N1 _)) S1 (F.nx (N1 _)) e))
theorem aDl(V:GV C r G g env)(hr:Room (r+1) A)(N:Nx ρ0 (Wr env) s0 ρ s)(S:Sim C H ρ s)(F:Fm C env ρ s lo)(hli:ρ[it]? =aa li)(e:g.more it lo H Q):Sg C.M A (G.loopC env (.ref li.a)) (G.T1 env (.ref li.a)) (G.fs1 env p) (GΦ C G env ρ0 s0 Q) s:=aBe V.f2 hr.overL S F e λS1 N1 F1 e=>aBf V.f3 hr.overL S1 F1 e λS2 N2 F2 e=>by
  exact xE e λn e=>mZ rfl (nK V n hr ((N.trans N1).trans N2) S2 F2 (aQ N2.pre (aQ N1.pre hli)) e)
theorem zX(V:GV C r G g env)(hr:Room (r+1) A)(N:Nx ρ0 (Wr env) s0 ρ s)(S:Sim C H ρ s)(F:Fm C env ρ s lo)(e:g.start lo H Q):Sg C.M A (.func G.body env) (C.M.den (.func G.body env)) [] (GΦ C G env ρ0 s0 Q) s:=by
 refine aBg ?_
 rw[Sem.onRaise_eq_wrap,Sem.bind_eq_wrap',Sem.wrap_wrap]
 rw[Sem.wrap_congr (oq G.body env) _ _ (K':=GSh.Kf) (H':=GSh.Hf env) (λf=>by cases f<;>rfl) (λe=>by rw[Sem.bind_eq_wrap,Sem.wrap_wrap];rfl)]
 show Sg C.M A _ ((oq (G.pre++G.tail) env).wrap GSh.Kf (GSh.Hf env) id id) [] _ s
 rw[f8]
 refine aBe V.pre hr.overF S F e λ{s1 _ _ _} S1 N1 F1 e=>cT ?_
 rw[exec_For]
 refine dZ (dw (dZ (EV.run V.it hr.overF S1 F1 e λ{x s2 ρ2 v2 H2} S2 N2 r2 e=>e.elim λci hi e=>(xAE e λz96 n e=>?_))));obtain⟨vs,hv⟩:=z96
 refine cX (r2.toRef hi) λlc _ hx gl=>rwL hx (bZ (cJ S2 (.ref gl) hv) λad xs ha q2 q3=>?_)
 cases ha
 refine dZ (ja (V.hs _) (dZ (dw (dZ (ax (oz q2 ?_))))))
 have N3:Nx ρ2 noW s2 _ _:=.alloc {cls:=.type "list_iterator",data:=.fields #[.ref lc.a,.int 0 0]}
 exact aF0 λp=>nK V n hr (((N.trans N1).trans N2.wr).trans N3.wr) (S2.alloc {cls:=.type "list_iterator",data:=.fields #[.ref lc.a,.int 0 0]} (.itr (aa (ci,0))) ⟨rfl,rfl,lc,aQ (mi _ _) gl,_,Heap.get?_push_size _ rfl,rfl,rfl⟩) ((F1.nx N2).nx N3) S2.last e
theorem aDm(N:Nx ρ0 (Wr env) s0 ρ s)(S:Sim C H ρ s)(F:Fm C env ρ s lo)(q:Q .done H):Sg C.M A (.func G.body env) (GSh.Kf .next) [] (GΦ C G env ρ0 s0 Q) s:=aBh (.ok (.ret .none)) (.done S N F.locals q)
def f9(G:GSh)(ρ:ac Lc)(s:ak)(L:bz)(lo:Lo):Prop:=∃ m,s.heap.Ns L m/\∀ x,(G.envL L).kindOf x=aa .local->OV ρ s.heap (m x) (lo x)
def fA(G:GSh)(ρ:ac Lc)(s:ak)(l:Lc)(gn:Gn):Prop:=∃ g nm qn,l.g=aa g/\s.heap.get? l.a=aa {cls:=.type "generator",data:=.fields #[.int (g:Nat) 0,nm,qn]}/\(match gn with
  | .fresh lo=>l.d≠l.a/\f9 G ρ s l.d lo/\s.gens[g]? =aa (.fresh (.func G.body (G.envL l.d)))
  | .loop it lo=>l.d≠l.a/\f9 G ρ s l.d lo/\∃ li k l' p p',ρ[it]? =aa li/\k (.send .none)=G.T1 (G.envL l.d) (.ref li.a)/\s.gens[g]? =aa (.suspended k l' (G.loopC (G.envL l.d) (.ref li.a)) p (G.fs1 (G.envL l.d) p') af)
  | .last lo=>l.d≠l.a/\f9 G ρ s l.d lo/\∃ k l' p,k (.send .none)=GSh.Kf .next/\s.gens[g]? =aa (.suspended k l' (.func G.body (G.envL l.d)) p [] af)
  | .run=>l.d=l.a/\s.gens[g]? =aa .running
  | .fin=>l.d≠l.a/\(∃ o,s.heap.get? l.d=aa o/\¬bB o)/\s.gens[g]? =aa .finished)
theorem f9.mono(h:f9 G ρ s L lo)(e:ρ<+:ρ')(i:Imm s.heap s'.heap)(h2:∀ o,s.heap.get? L=aa o->s'.heap.get? L=aa o):f9 G ρ' s' L lo:=by
 refine xEA h λm z97 hm=>?_;obtain⟨o,es,ep,ho,q⟩:=z97
 exact⟨m,⟨o,es,ep,h2 _ ho,q⟩,λx hx=>(hm x hx).mono e i⟩
theorem fA.mono(e:ρ<+:ρ')(i:Imm s.heap s'.heap)(h1:∀ o,s.heap.get? l.a=aa o->s'.heap.get? l.a=aa o)(h2:∀ o,s.heap.get? l.d=aa o->s'.heap.get? l.d=aa o)(h3:∀ k x,l.g=aa k->s.gens[k]? =aa x->s'.gens[k]? =aa x)(h:fA G ρ s l gn):fA G ρ' s' l gn:=by
 refine gD h λg nm qn hg ho hm=>⟨g,nm,qn,hg,h1 _ ho,?_⟩
 cases gn with
 |fresh lo=>exact⟨hm.1,hm.2.1.mono e i h2,h3 _ _ hg hm.2.2⟩
 |loop it lo=>exact hI hm λa b li k l' p p' x y z=>⟨a,b.mono e i h2,li,k,l',p,p',aQ e x,y,h3 _ _ hg z⟩
 |last lo=>exact qP hm λa b k l' p y z=>⟨a,b.mono e i h2,k,l',p,y,h3 _ _ hg z⟩
 |run=>exact⟨hm.1,h3 _ _ hg hm.2⟩
 |fin=>refine xAA hm λa z98 z=>xEA z98 λo x y=>?_;exact⟨a,⟨o,h2 _ x,y⟩,h3 _ _ hg z⟩
theorem fA.here(h:fA G ρ s l gn):∃ o o',s.heap.get? l.a=aa o/\s.heap.get? l.d=aa o'/\¬bB o/\¬bB o':=by
 refine gD h λg nm qn hg ho hm=>?_
 have hi: ¬bB ({cls:=.type "generator",data:=.fields #[.int (g:Nat) 0,nm,qn]}:Obj):=by simp [bB]
 have fr:∀ lo,f9 G ρ s l.d lo->∃ o o',s.heap.get? l.a=aa o/\s.heap.get? l.d=aa o'/\¬bB o/\¬bB o':=by
  rintro lo ⟨m,⟨o,es,ep,h2,hd,_⟩,_⟩
  exact⟨_,o,ho,h2,hi,by simp [bB,hd]⟩
 cases gn with
 |fresh lo=>exact fr lo hm.2.1
 |loop it lo=>exact fr lo hm.2.1
 |last lo=>exact fr lo hm.2.1
 |run=>exact rwL hm.1 ⟨_,_,ho,ho,hi,hi⟩
 |fin=>refine xAA hm λ_ z99 _=>xEA z99 λo x y=>?_;exact⟨_,o,ho,x,hi,y⟩
def mkCx(prog:se)(w:jn)(base:ak)(lim:base.heap.NoLimit)(G:GSh):Cx:=⟨prog,w,base,lim,fA G,fA.mono,fA.here⟩
structure GCx(C:Cx)(G:GSh):Prop where
 gr:∀ ρ s l gn,C.GR ρ s l gn=fA G ρ s l gn
 loc:∀ L x,(G.envL L).kindOf x≠aa .cell/\(G.envL L).kindOf x≠aa .free
 cells:∀ L,(G.envL L).cells= []
 kind:G.fd.scope.kind= .function
 gl:G.fd.globals=ew
 bi:G.fd.builtins=jv
def jC(ρ ρ':ac Lc):Prop:=∀ (n:Nat) (l:Lc),ρ[n]? =aa l->∃ l',ρ'[n]? =aa l'/\l'.a=l.a
theorem VR.sameA(e:jC ρ ρ')(r:VR ρ h u v):VR ρ' h u v:=by
 refine VR.rec (motive_2:=λus vs _=>VRs ρ' h us vs) .none .bool .int .str ?_ ?_ ?_ ?_ ?_ ?_ .raw .nil ?_ r
 ·intro a xs n vs g _ ih;exact .tup g ih
 ·intro a n x y z t u v dd g;exact .mat g
 ·intro n l g;exact xEA (e n l g) λl' h1 h2=>rwR h2 (.ref h1)
 ·intro a n l g g';exact xEA (e n l g) λl' h1 h2=>.dget h1 (rwL h2 g')
 ·intro a n l g g';exact xEA (e n l g) λl' h1 h2=>.scon h1 (rwL h2 g')
 ·intro a x y z t u v g;exact .rng g
 ·intro u us v vs _ _ a b;exact .cons a b
theorem VRs.sameA(e:jC ρ ρ')(r:VRs ρ h us vs):VRs ρ' h us vs:=r.ind .nil λa _ b=>.cons (a.sameA e) b
theorem OV.sameA(e:jC ρ ρ'):∀ {u:ae au}{v:ae V},OV ρ h u v->OV ρ' h u v
 |none,none,_=>trivial
 |some _,aa _,x=>VR.sameA e x
 |none,aa _,x=>False.elim x
 |some _,none,x=>False.elim x
theorem OR.sameA(hG:GCx C G)(e:jC ρ ρ')(r:OR C ρ s l m):OR C ρ' s l m:=by
 cases m with
 |list vs=>exact jU r λa g xs n x y=>⟨a,g,xs,n,x,y.sameA e⟩
 |ro vs=>exact pS r λa g xs x y=>⟨a,g,xs,x,y.sameA e⟩
 |dict n f=>exact vD r λa g kvs q x y=>⟨a,g,kvs,q,x,λk=>(y k).sameA e⟩
 |eset=>exact r
 |inst fs=>exact mU r λg ne o m a b c d=>⟨g,ne,o,m,a,b,c,λk=>(d k).sameA e⟩
 |gen gn=>
  have r':C.GR ρ s l gn:=r
  rw[hG.gr]at r'
  show C.GR ρ' s l gn
  rw[hG.gr]
  refine gD r' λg nm qn hg ho hm=>⟨g,nm,qn,hg,ho,?_⟩
  have fr:∀ {lo},f9 G ρ s l.d lo->f9 G ρ' s l.d lo:=λw=>xEA w λm hn hm=>⟨m,hn,λx hx=>(hm x hx).sameA e⟩
  cases gn with
  |fresh lo=>exact⟨hm.1,fr hm.2.1,hm.2.2⟩
  |loop it lo=>refine hI hm λa b li k l' p p' x y z=>xEA (e _ _ x) λli' h1 h2=>?_;rw[<-h2]at y z;exact⟨a,fr b,li',k,l',p,p',h1,y,z⟩
  |last lo=>exact xAA hm λa b c=>⟨a,fr b,c⟩
  |run=>exact hm
  |fin=>exact hm
 |itr p=>cases p with
  |none=>exact r
  |some p=>exact pS r λa g li x y=>xEA (e _ _ x) λli' h1 h2=>⟨a,g,li',h1,(rwL h2 y)⟩
theorem vJ{s:ak}(h:k≠g)(e:s.gens[k]? =aa y):(s.setGen g x).gens[k]? =aa y:=by
 exact rwL (Array.getElem?_setIfInBounds_ne (Ne.symm h)) e
theorem fZ{s:ak}(e:s.gens[g]? =aa y):(s.setGen g x).gens[g]? =aa x:=by
 have:g<s.gens.size:=by
  refine Or.elim (mw g s.gens.size) (λq=>q) λq=>?_
  ·cases ((Array.getElem?_eq_none q)▸e)
 show(s.gens.setIfInBounds g x)[g]? =aa x
 simp [Array.getElem?_setIfInBounds,this]
theorem tH{s:ak}(h:pv s.gens)(hx:x.bare=ag):pv (s.setGen g x).gens:=by
 intro y hy
 have hy':y∈s.gens.setIfInBounds g x:=hy
 obtain⟨i,hi,rfl⟩:=Array.mem_iff_getElem.mp hy'
 rw[Array.getElem_setIfInBounds (by simpa using hi)]
 split
 ·exact hx
 ·exact h _ (Array.getElem_mem _)
theorem kV(hl:ρ[gi]? =aa l)(ha:l'.a=l.a):jC ρ (ρ.set gi l'):=by
 intro n x hx
 by_cases q:n=gi
 ·subst q
  rw[hl]at hx;refine cxS hx ?_
  exact⟨l',by rw[bn ((List.getElem?_eq_some_iff.mp hl).1)],ha⟩
 ·exact⟨x,by exact rwL (ei (Ne.symm q)) hx,rfl⟩
theorem Sim.swapG(hG:GCx C G)(S:Sim C H ρ s)(hl:ρ[gi]? =aa l)(hH:H[gi]? =aa (.gen gn))(ha:l'.a=l.a)(hg:l'.g=l.g)(hg':l.g=aa g)(hb:gs.bare=ag)(hd:l'.d=l.a\/l'.d=l.d\/(¬Own ρ l'.d/\C.base.heap.get? l'.d=none))(hnew:fA G (ρ.set gi l') (s.setGen g gs) l' gn'):Sim C (H.set gi (.gen gn')) (ρ.set gi l') (s.setGen g gs):=by
 have hltH:gi<H.length:=by exact rwR S.len ((List.getElem?_eq_some_iff.mp hl).1)
 have other:∀ {i:Nat}{x:Lc},(ρ.set gi l')[i]? =aa x->(i=gi/\x=l')\/(i≠gi/\ρ[i]? =aa x):=by
  intro i x h
  by_cases q:i=gi
  ·subst q;rw[bn ((List.getElem?_eq_some_iff.mp hl).1)]at h;exact cxS h (.inl ⟨rfl,rfl⟩)
  ·exact .inr ⟨q,(rwR (ei (Ne.symm q)) h)⟩
 have hbase:C.base.heap.get? l.a=none/\C.base.heap.get? l.d=none:=by
  rcases S.ro gi l hl with ⟨vs,e⟩ |e
  ·cases (hH▸e)
  ·exact e
 have hdis:∀ {i:Nat}{x:Lc},i≠gi->ρ[i]? =aa x->∀ b,l'.has b->¬x.has b:=by
  intro i x q hx b hb hxb
  have old:=S.disj gi i l x hl hx (Ne.symm q)
  rcases hb with rfl |rfl
  ·exact old _ (.inl rfl) (rwR ha hxb)
  ·rcases hd with e |e |⟨e,_⟩
   ·exact old _ (.inl rfl) (rwR e hxb)
   ·exact old _ (.inr rfl) (rwR e hxb)
   ·exact e ⟨x,dc hx,hxb⟩
 refine⟨by simp [S.len],S.keep,λi m x hm hx=>?_,λi x hx=>?_,λi j li lj hi hj hne b h1 h2=>?_,λi j li lj k hi hj hne h1 h2=>?_,S.os,tH S.bare hb⟩
 ·rcases other hx with ⟨rfl,rfl⟩ |⟨q,hx'⟩
  ·rw[bn hltH]at hm;refine cxS hm ?_
   show C.GR _ _ _ _
   rw[hG.gr];exact hnew
  ·exact OR.sameA hG (kV hl ha) ((S.objs i m x (rwR (ei (Ne.symm q)) hm) hx').mono (s:=s) (s':=s.setGen g gs) (be _) (.refl _) (λ_ e=>e) (λ_ e=>e) (λk y hk e=>vJ (λz=>S.disjG i gi x l k hx' hl q hk (by rw[hg',z])) e))
 ·rcases other hx with ⟨rfl,rfl⟩ |⟨q,hx'⟩
  ·right
   refine⟨by exact rwL ha hbase.1,?_⟩
   rcases hd with e |e |⟨_,e⟩
   ·exact rwL e hbase.1
   ·exact rwL e hbase.2
   ·exact e
  ·exact rwL (ei (Ne.symm q)) (S.ro i x hx')
 ·rcases other hi with ⟨rfl,rfl⟩ |⟨q,hi'⟩<;>rcases other hj with ⟨rfl,rfl⟩ |⟨q',hj'⟩
  ·exact hne rfl
  ·exact hdis q' hj' b h1 h2
  ·exact hdis q hi' b h2 h1
  ·exact S.disj i j li lj hi' hj' hne b h1 h2
 ·rcases other hi with ⟨rfl,rfl⟩ |⟨q,hi'⟩<;>rcases other hj with ⟨rfl,rfl⟩ |⟨q',hj'⟩
  ·exact hne rfl
  ·exact S.disjG i j l lj k hl hj' hne (hg▸h1) h2
  ·exact S.disjG i j li l k hi' hl hne h1 (hg▸h2)
  ·exact S.disjG i j li lj k hi' hj' hne h1 h2
def MO.gn:MO->ae Gn | .gen g=>aa g |_=>none
theorem aDk(e:m.bind MO.gn=aa g):m=aa (.gen g):=by
 refine xEA (aj.mp e) λm z101 h2=>rwL z101 ?_
 cases m with
 |gen g=>refine cxS h2 ?_;rfl
 |_=>cases h2
def GFn.finK(gi:Nat)(Q:ae V->MH->Prop):kQ->MH->Prop:=λo H1=>H1[gi]? =aa (.gen .run)/\match o with
 | .yl it lo v=>Q (aa v) (H1.set gi (.gen (.loop it lo)))
 | .yr lo v=>Q (aa v) (H1.set gi (.gen (.last lo)))
 | .done=>Q none (H1.set gi (.gen .fin))
def GFn.nxG(g:GFn)(gi:Nat)(H:MH)(Q:ae V->MH->Prop):Gn->Prop
 | .fresh lo=>g.start lo (H.set gi (.gen .run)) (GFn.finK gi Q)
 | .loop it lo=>g.more it lo (H.set gi (.gen .run)) (GFn.finK gi Q)
 | .last lo=>Q none (H.set gi (.gen .fin))
 | .fin=>Q none H
 | .run=>fe
def GFn.nx(g:GFn)(gi:Nat)(H:MH)(Q:ae V->MH->Prop):Prop:=Lf (H[gi]?.bind MO.gn) λgn=>g.nxG gi H Q gn
theorem Fm.ofFrm(hG:GCx C G)(h:f9 G ρ s L lo)(ho: ¬Own ρ L)(hb:C.base.heap.get? L=none):Fm C (G.envL L) ρ s lo:=by
 refine xEA h λm hn hm=>?_
 have hc:∀ x c,(G.envL L).cells.lookup x=aa c->fe:=λx c e=>by rw[hG.cells]at e;cases e
 refine⟨hG.kind,hG.gl,hG.bi,⟨m,hn,hm⟩,λx hx=>?_,λb hb'=>?_,λx c e=>(hc x c e).elim,λx y c e=>(hc x c e).elim,λb hb'=>?_⟩
 ·refine Or.elim hx (λhx=>(ba hx (hG.loc L x).1)) λhx=>?_
  ·exact ba hx (hG.loc L x).2
 ·rcases hb' with rfl |⟨x,e⟩
  ·exact⟨ho,hb⟩
  ·exact(hc x b e).elim
 ·rcases hb' with rfl |⟨x,e⟩
  ·exact iI hn λo _ _ g _=>⟨o,g⟩
  ·exact(hc x b e).elim
theorem Fm.frm(F:Fm C (G.envL L) ρ s lo):f9 G ρ s L lo:=F.ns
theorem w6{R:α->ak->Prop}(hh:A.handled=none)(hE:∀ x h',(∃ o,h'.get? x=aa o/\o.cls= .type "StopIteration")->(∀ b o,s.heap.get? b=aa o->h'.get? b=aa o)->E (.ref x) {s with heap:=h'}):
  ar (gz prog w) A (newExc (.type "StopIteration") [] >>=λx=>(raiseNew x:Sem β) >>=k') R E s:=by
 refine zzB (zzB (dp (zzB (ja (a:=Value.none) (by first |rfl | (rfl)) (dp (zzB ?_) (by size_fits)))) (by size_fits)))
 delta raiseNew;exact zzB (sv (rwL hh (zzB (zzP (uy (hE _ _ ⟨_,Heap.get?_push_size _ rfl,rfl⟩ (λb o hb=>Heap.get?_push_of_some _ (Heap.get?_push_of_some _ hb))))))))
theorem Sim.extS(S:Sim C H ρ s)(hk:∀ b o,s.heap.get? b=aa o->h'.get? b=aa o):Sim C H ρ {s with heap:=h'}:=S.ext hk
structure GAt(C:Cx)(G:GSh)(H:MH)(ρ:ac Lc)(s:ak)(gi gk:Nat)(l:Lc):Prop where
 S:Sim C H ρ s
 hl:ρ[gi]? =aa l
 hH:∃ gn,H[gi]? =aa (.gen gn)
 hg:l.g=aa gk
 ho:∃ nm qn,s.heap.get? l.a=aa {cls:=.type "generator",data:=.fields #[.int (gk:Nat) 0,nm,qn]}
 base:C.base.heap.get? l.a=none/\C.base.heap.get? l.d=none
 ne:l.d≠l.a
 hL:∃ oL,s.heap.get? l.d=aa oL
noncomputable abbrev lrun(l:Lc):Lc:= {l with d:=l.a}
theorem GAt.run(hG:GCx C G)(a:GAt C G H ρ s gi gk l)(hgs:s.gens[gk]? =aa gs):Sim C (H.set gi (.gen .run)) (ρ.set gi (lrun l)) (s.setGen gk .running)/\¬Own (ρ.set gi (lrun l)) l.d/\jC ρ (ρ.set gi (lrun l)):=by
 refine xEE a.ho λnm qn ho=>xE a.hH λgn hH=>⟨a.S.swapG hG (l':=lrun l) a.hl hH rfl rfl a.hg rfl (.inl rfl) ⟨gk,nm,qn,a.hg,ho,rfl,fZ hgs⟩,?_,kV a.hl rfl⟩
 rintro ⟨x,hx,hb⟩
 refine xE (oh hx) λi hi=>?_
 by_cases q:i=gi
 ·subst q
  refine cyS ((bn ((List.getElem?_eq_some_iff.mp a.hl).1))▸hi) λzq=>?_;subst zq
  refine Or.elim hb (λz=>?_) λz=>?_<;>exact a.ne z
 ·exact a.S.disj gi i l x a.hl (rwR (ei (Ne.symm q)) hi) (Ne.symm q) _ (.inr rfl) hb
theorem GAt.back(hG:GCx C G)(a:GAt C G H ρ s gi gk l)(hown: ¬Own (ρ.set gi (lrun l)) l.d)(N:Nx (ρ.set gi (lrun l)) (Wr (G.envL l.d)) (s.setGen gk .running) ρ1 s1)(S1:Sim C H1 ρ1 s1)(hH1:H1[gi]? =aa (.gen .run))(hbare:gs.bare=ag)(hnew:∀ nm qn,s1.heap.get? l.a=aa {cls:=.type "generator",data:=.fields #[.int (gk:Nat) 0,nm,qn]}->jC ρ1 (ρ1.set gi l)->(∃ y,s1.gens[gk]? =aa y)->fA G (ρ1.set gi l) (s1.setGen gk gs) l gn'):
  Sim C (H1.set gi (.gen gn')) (ρ1.set gi l) (s1.setGen gk gs)/\Nx ρ noW s (ρ1.set gi l) (s1.setGen gk gs)/\jC ρ1 (ρ1.set gi l):=by
 have hlt:=(List.getElem?_eq_some_iff.mp a.hl).1
 have hl1:=aQ N.pre (by rw[bn hlt])
 have o1:fA G ρ1 s1 (lrun l) .run:=by rw[<-hG.gr];exact (S1.objs gi _ _ hH1 hl1)
 refine cN o1 λgk' nm' qn' hg' ho' _ hrun=>?_
 obtain rfl:gk'=gk:=Option.some.inj (hg'.symm.trans a.hg)
 refine xE a.hL λoL hoL=>⟨S1.swapG hG hl1 hH1 rfl rfl a.hg hbare (.inr (.inr ⟨N.own hoL hown,a.base.2⟩)) (hnew nm' qn' ho' (kV hl1 rfl) ⟨_,hrun⟩),xE N.pre λt ht=>?_,(kV hl1 rfl)⟩
 have hpre:ρ1.set gi l=ρ++t:=by
  rw[<-ht,List.set_append_left _ _ (by simpa using hlt),ms]
  refine xE (List.getElem?_eq_some_iff.mp a.hl) λhh e=>?_
  rw[<-e,List.set_getElem_self]
 refine⟨⟨t,hpre.symm⟩,λx hx=>?_,λb o e ho' _=>?_,N.imm,λb o e=>N.al b o e⟩
 ·rw[hpre,tm]at hx
  exact N.new x (rwR ht (rwL tm hx))
 ·refine N.kp b o e ?_ ?_
  ·rintro ⟨x,hx,hb⟩
   refine xE (oh hx) λi hi=>?_
   by_cases q:i=gi
   ·subst q
    refine cyS ((bn hlt)▸hi) λzq=>?_;subst zq
    exact ho' ⟨l,dc a.hl,hb.elim .inl .inl⟩
   ·exact ho' ⟨x,dc (rwR (ei (Ne.symm q)) hi),hb⟩
  ·rintro (rfl |⟨x,hx⟩)
   ·exact ho' ⟨l,dc a.hl,.inr rfl⟩
   ·rw[hG.cells]at hx;cases hx
inductive mB(C:Cx)(gi:Nat)(ρ:ac Lc)(s:ak)(Q:ae V->MH->Prop):ae au->ak->Prop
 |item {u v ρ' s' H'} (S:Sim C H' ρ' s') (N:Nx ρ noW s ρ' s') (r:VR ρ' s'.heap u v) (hg:∃ gn,H'[gi]? =aa (.gen gn)) (q:Q (aa v) H'):mB C gi ρ s Q (aa u) s'
 |done {ρ' s' H'} (S:Sim C H' ρ' s') (N:Nx ρ noW s ρ' s') (q:Q none H'):mB C gi ρ s Q none s'
theorem mB.ext(h:mB C gi ρ s Q none s1)(hk:∀ b o,s1.heap.get? b=aa o->h'.get? b=aa o):mB C gi ρ s Q none {s1 with heap:=h'}:=by
 cases h with
 |done S N q=>exact .done (S.extS hk) (N.trans (.ext hk)) q
structure Wk(C:Cx)(A:ef)(P:ae au->ak->Prop)(Q:PySem.Fin->ak->Prop)(E:au->ak->Prop)(kk:GenResult->Sem PySem.Fin):Prop where
 y:∀ v,kk (.yielded v)=ret v
 r:∃ k':PUnit->Sem PySem.Fin,kk (.returned .none)=(newExc (.type "StopIteration") [] >>=λx=>(raiseNew x:Sem PUnit) >>=k')
 h1:∀ u s',P (aa u) s'->Q (.done (.ret u)) s'
 h2:∀ x h' s1,P none s1->(∃ o,h'.get? x=aa o/\o.cls= .type "StopIteration")->(∀ b o,s1.heap.get? b=aa o->h'.get? b=aa o)->E (.ref x) {s1 with heap:=h'}
theorem GAt.main(hG:GCx C G)(hr:A.handled=none)(a:GAt C G H ρ s gi gk l)(hown: ¬Own (ρ.set gi (lrun l)) l.d)(hgs:s.gens[gk]? =aa gs)(hgo:aFd C.M A (GΦ C G (G.envL l.d) (ρ.set gi (lrun l)) (s.setGen gk .running) (GFn.finK gi Q0)) (.send .none) (s.setGen gk .running) gs)(W:Wk C A (mB C gi ρ s Q0) Q E kk):ar C.M A (.resume gk (.send .none) [] kk) Q E s:=by
 have frs:∀ {ρ1:ac Lc}{s1:ak}{lo:Lo}{gs':qd},jC ρ1 (ρ1.set gi l)->Fm C (G.envL l.d) ρ1 s1 lo->f9 G (ρ1.set gi l) (s1.setGen gk gs') l.d lo:=λsa F=>
  xEA F.frm λm hn hm=>⟨m,hn,λx hx=>(hm x hx).sameA sa⟩
 refine vE hgs hgo λe s1 hΦ=>?_
 cases hΦ with
 |yl S1 N1 hk hli ru Fu q=>
  refine⟨rfl,?_⟩
  rename_i li u l' k p p'
  have B:=a.back hG hown (gn':=.loop _ _) N1 S1 q.1 rfl (λnm qn ho' sa ⟨y,hy⟩=>by
   exact xEA (sa _ li hli) λli' e1 e2=>⟨gk,nm,qn,a.hg,ho',a.ne,frs sa Fu,li',k,l',p,p',e1,by exact rwL e2 hk,by exact rwL e2 (fZ hy)⟩)
  show ar C.M A (kk (.yielded u)) Q E _
  rw[W.y]
  exact zzP (W.h1 u _ (.item B.1 B.2.1 (ru.sameA B.2.2) ⟨_,bn (List.getElem?_eq_some_iff.mp q.1).1⟩ q.2))
 |yr S1 N1 hk ru Fu q=>
  refine⟨rfl,?_⟩
  rename_i u l' k p
  have B:=a.back hG hown (gn':=.last _) N1 S1 q.1 rfl (λnm qn ho' sa ⟨y,hy⟩=>⟨gk,nm,qn,a.hg,ho',a.ne,frs sa Fu,k,l',p,hk,fZ hy⟩)
  show ar C.M A (kk (.yielded u)) Q E _
  rw[W.y]
  exact zzP (W.h1 u _ (.item B.1 B.2.1 (ru.sameA B.2.2) ⟨_,bn (List.getElem?_eq_some_iff.mp q.1).1⟩ q.2))
 |done S1 N1 hD q=>
  refine⟨rfl,?_⟩
  have B:=a.back hG hown (gn':=.fin) N1 S1 q.1 rfl (λnm qn ho' sa ⟨y,hy⟩=>⟨gk,nm,qn,a.hg,ho',a.ne,hD,fZ hy⟩)
  exact(xE W.r λk' hk2=>rwL hk2 (w6 hr λx h' hx hk=>W.h2 x h' _ (.done B.1 B.2.1 q.2) hx hk):ar C.M A (kk (.returned .none)) Q E (s1.setGen gk .finished))
theorem uK{a:bz}(hIs:s.heap.IsGen a gk)(hgs:s.gens[gk]? =aa gs)(h:ar C.M A.in1 (Builtin.Generator.genWake (.ref a) (.send .none)) (λfin s'=>∃ u,fin= .done (.ret u)/\Q (aa u) s') (λe s'=>∃ x,e= .ref x/\(∃ o,s'.heap.get? x=aa o/\o.cls= .type "StopIteration")/\Q none s') s):ar C.M A (mx (.ref a)) Q NoE s:=by
 delta mx
 refine zzB (ml (dm hIs.typeIs vu
  (eo vu hIs.typeIs entry_gen_next (dv h (λfin s' h=>?_) λe s' h=>?_) (args_gen_next _))))
 ·obtain⟨u,rfl,h⟩:=h
  exact⟨u,rfl,zzP h⟩
 ·obtain⟨x,rfl,⟨o,ho2,hc2⟩,h⟩:=h
  exact zzB (lq ⟨o,ho2,hc2⟩ ri (zzP h))
theorem GAt.wake(hG:GCx C G)(hr:Room (r+2) A)(a:GAt C G H ρ s gi gk l)(hown: ¬Own (ρ.set gi (lrun l)) l.d)(hgs:s.gens[gk]? =aa gs)(hgo:aFd C.M A.in1 (GΦ C G (G.envL l.d) (ρ.set gi (lrun l)) (s.setGen gk .running) (GFn.finK gi Q0)) (.send .none) (s.setGen gk .running) gs):ar C.M A (mx (.ref l.a)) (mB C gi ρ s Q0) NoE s:=by
 refine xEE a.ho λnm qn ho=>uK ⟨_,nm,qn,ho,rfl,rfl,rfl⟩ hgs (zzB (ax (wpAny_genNumber ⟨_,nm,qn,ho,rfl,rfl,rfl⟩ (zzB (wpAny_genState hgs ?_)))))
 cases gs with
 |running=>exact hgo.elim
 |finished=>exact hgo.elim
 |_=>
  exact zzB (wpAny_roomToWake (C.lim.keeps a.S.keep) hr.lt (GAt.main hG (show A.in1.handled=none from hr.1) a hown hgs hgo ⟨λ_=>rfl,⟨_,rfl⟩,λu s' hp=>⟨u,rfl,hp⟩,λx h' s1 hp hx hk=>⟨x,rfl,hx,hp.ext hk⟩⟩))
theorem Room.in1(hr:Room (r+2) A):Room (r+1) A.in1:=⟨hr.1,by exact(A38 hr.2.1:A.depth+10*(r+1)<=700),by exact(A39 hr.2.2:A.units+1+40*(r+1)<=8000)⟩
theorem uJ(hG:GCx C G)(VV:∀ L,GV C r G g (G.envL L))(hr:Room (r+2) A)(S:Sim C H ρ s)(hl:ρ[gi]? =aa l)(e:g.nx gi H Q):ar C.M A (mx (.ref l.a)) (mB C gi ρ s Q) NoE s:=by
 refine e.elim λgn hH e=>?_
 have hH:=aDk hH
 have o:fA G ρ s l gn:=by rw[<-hG.gr];exact (S.objs gi _ l hH hl)
 refine gD o λgk nm qn hg ho hm=>?_
 have hbase:C.base.heap.get? l.a=none/\C.base.heap.get? l.d=none:=by
  rcases S.ro gi l hl with ⟨vs,e⟩ |e
  ·cases (hH▸e)
  ·exact e
 have mk:∀ {lo},l.d≠l.a->f9 G ρ s l.d lo->GAt C G H ρ s gi gk l:=λhne hfr=>⟨S,hl,⟨_,hH⟩,hg,⟨nm,qn,ho⟩,hbase,hne,let ⟨m,⟨o,_,_,g,_⟩,_⟩:=hfr;⟨o,g⟩⟩
 have fm:∀ {lo},jC ρ (ρ.set gi (lrun l))->f9 G ρ s l.d lo->¬Own (ρ.set gi (lrun l)) l.d->Fm C (G.envL l.d) (ρ.set gi (lrun l)) (s.setGen gk .running) lo:=λsa hfr hown=>
  Fm.ofFrm hG (xEA hfr λm hn hm=>⟨m,hn,λx hx=>(hm x hx).sameA sa⟩) hown hbase.2
 cases gn with
 |fresh lo=>
  exact xAA hm λhne hfr hgs=>xAA ((mk hne hfr).run hG hgs) λS1 hown sa=>(mk hne hfr).wake hG hr hown hgs ⟨rfl,zX (VV l.d) hr.in1 .refl S1 (fm sa hfr hown) e⟩
 |loop it lo=>
  refine hI hm λhne hfr li k l' p p' hli hk hgs=>xAA ((mk hne hfr).run hG hgs) λS1 hown sa=>xEA (sa it li hli) λli' e1 e2=>(mk hne hfr).wake hG hr hown hgs (?_:Sg C.M A.in1 _ (k (.send .none)) _ _ _)
  exact rwL hk (rwR e2 (aDl (VV l.d) hr.in1 .refl S1 (fm sa hfr hown) e1 e))
 |last lo=>
  refine qP hm λhne hfr k l' p hk hgs=>xAA ((mk hne hfr).run hG hgs) λS1 hown sa=>(mk hne hfr).wake hG hr hown hgs (?_:Sg C.M A.in1 _ (k (.send .none)) _ _ _)
  exact rwL hk (aDm .refl S1 (fm sa hfr hown) ⟨bn (List.getElem?_eq_some_iff.mp hH).1,by rw[ms];exact e⟩)
 |run=>exact e.elim
 |fin=>
  refine xAA hm λhne _ hgs=>uK ⟨_,nm,qn,ho,rfl,rfl,rfl⟩ hgs (zzB (ax (wpAny_genNumber ⟨_,nm,qn,ho,rfl,rfl,rfl⟩ (zzB (wpAny_genState hgs ?_)))))
  have W:∀ {kk:GenResult->Sem PySem.Fin}{Q:PySem.Fin->ak->Prop}{E:au->ak->Prop},ar C.M A.in1 (kk .finished) Q E s->ar C.M A.in1 (.resume gk (.send .none) [] kk) Q E s:=by
   intro kk Q E h Γ p hΓ
   rw[Sem.wp_resume]
   exact⟨.finished,s,by delta Wakes;exact rwL hgs ⟨rfl,rfl⟩,h Γ p hΓ⟩
  exact W (rwL (by simp:(newExc (.type "StopIteration") [] >>=λx=>(raiseNew x:Sem PySem.Fin))=(newExc (.type "StopIteration") [] >>=λx=>(raiseNew x:Sem PySem.Fin) >>=λy=>(pure y:Sem PySem.Fin))) (w6 hr.1 λx h' hx hk=>⟨x,rfl,hx,.done (S.extS hk) (.ext hk) e⟩))
theorem g_lt(hG:GCx C G){i:Nat}(S:Sim C H ρ s)(hl:ρ[i]? =aa l)(hk:l.g=aa k):k<s.gens.size:=by
 have hlt:i<H.length:=by exact rwR S.len ((List.getElem?_eq_some_iff.mp hl).1)
 have o:=S.objs i H[i] l (az hlt) hl
 revert o
 cases H[i] with
 |list vs=>rintro ⟨_,g,_⟩;rw[g]at hk;cases hk
 |ro vs=>rintro ⟨_,g,_⟩;rw[g]at hk;cases hk
 |dict n f=>rintro ⟨_,g,_⟩;rw[g]at hk;cases hk
 |eset=>rintro ⟨_,g,_⟩;rw[g]at hk;cases hk
 |inst fs=>rintro ⟨g,_⟩;rw[g]at hk;cases hk
 |itr p=>
  cases p with
  |none=>rintro ⟨_,g,_⟩;rw[g]at hk;cases hk
  |some p=>rintro ⟨_,g,_⟩;rw[g]at hk;cases hk
 |gen gn=>
  intro o
  have o':fA G ρ s l gn:=by rw[<-hG.gr];exact o
  refine gD o' λg nm qn hg ho hm=>?_
  obtain rfl:g=k:=by exact Option.some.inj (rwR hg hk)
  have sz:∀ {x},s.gens[g]? =aa x->g<s.gens.size:=λ{x} e=>by
   refine Or.elim (mw g s.gens.size) (λq=>q) λq=>?_
   ·cases ((Array.getElem?_eq_none q)▸e)
  cases gn with
  |fresh lo=>exact sz hm.2.2
  |loop it lo=>exact hI hm λ_ _ _ _ _ _ _ _ _ z=>sz z
  |last lo=>exact qP hm λ_ _ _ _ _ _ z=>sz z
  |run=>exact sz hm.2
  |fin=>exact sz hm.2.2
def cGen(names:ac Str)(more:ac V):CF:=λvs H Q=>(vs++more).length=names.length/\Q (.ref H.length) (H++[.gen (.fresh (loB names (vs++more) lo0))])
theorem CV.gen(hG:GCx C G)(D:Def C G.fa G.fd G.body){dflt:ac au}(hgen:G.fd.scope.isGenerator=ag)(hb:Binds C G.fd names dflt)(hd:∀ ρ h,VRs ρ h dflt more)(hn:∀ x∈names,G.fd.scope.names.lookup x=aa .local):CV C (r+1) (.ref G.fa) (cGen names more):=by
 refine xEA D.obj λo ho hdata=>CC.cv ho hdata ?_
 intro A s ρ H us vs Q hr S hu e
 refine xA e λhlen q=>?_
 have hlen':=(hu.append (hd _ _)).length.trans hlen
 refine codeAny_call_generator hr.lt (S.keep _ _ ho) hdata D.co hgen D.body (D.code.keeps S.keep) (hb s us S.keep hlen' _ _ _ _ (rwL D.clo (qy D.kind (λx hx=>.inl (hn x.1 (List.of_mem_zip hx).1)) λenv he s1 I=>?_)))
 subst he
 refine xAAA (Fm.call D S (hu.append (hd _ _)) hlen' (λx hx=>.inl (hn x hx)) I) λS1 N1 F1 hfr=>⟨(C.lim.keeps S.keep).keeps I.toInCall.keep,xEE I.toInCall.same λh1 tk1 e1=>xEA F1.ns λm hns hm=>?_⟩
 have hLne:s.heap.objs.size≠s1.heap.objs.size:=λq=>by
  refine iI hns λo _ _ g _=>?_
  have:=Heap.lt_size g
  rw[(rfl:(fh G.fd s.heap.objs.size G.fa).locals=s.heap.objs.size),q]at this
  exact Nat.lt_irrefl _ this
 have hgs:s1.gens=s.gens:=by rw[e1]
 have keepG:∀ b o,s1.heap.get? b=aa o->(s1.heap.push {cls:=.type "generator",data:=.fields #[.int s1.gens.size 0,.str G.fd.name s1.toks,.str G.fd.qualname (s1.toks+1)]}).get? b=aa o:=λb o e=>Heap.get?_push_of_some _ e
 have hka:s.heap.get? s1.heap.objs.size=none:=by
  cases q:s.heap.get? s1.heap.objs.size with
  |none=>rfl
  |some o=>have:=I.toInCall.keep _ _ q;rw[bG]at this;cases this
 have SN:=S.new (s':= {s1 with gens:=s1.gens.push (.fresh (.func G.body (fh G.fd s.heap.objs.size G.fa))),toks:=s1.toks+1+1,heap:=s1.heap.push {cls:=.type "generator",data:=.fields #[.int s1.gens.size 0,.str G.fd.name s1.toks,.str G.fd.qualname (s1.toks+1)]}})
  (l:=⟨s1.heap.objs.size,s.heap.objs.size,aa s.gens.size⟩) (m:=.gen (.fresh (loB names (vs++more) lo0))) (λb o e=>keepG b o (I.toInCall.keep b o e)) (λk x e=>by
   have hlt:k<s.gens.size:=by
    refine Or.elim (mw k s.gens.size) (λq=>q) λq=>?_
    ·rw[Array.getElem?_eq_none q]at e;cases e
   rw[hgs,Array.getElem?_push,aq (qg hlt)];exact e) (by rw[e1]) (by rw[hgs];exact S.bare.push rfl) hka (bG _)
  (λk e l' hl' e'=>by
   refine xE (oh hl') λi hi=>?_
   refine cyS e λzq=>?_;subst zq;exact Nat.lt_irrefl _ (g_lt hG S hi e'))
  (by
   show C.GR _ _ _ _
   rw[hG.gr]
   exact⟨s.gens.size,.str G.fd.name s1.toks,.str G.fd.qualname (s1.toks+1),rfl,by exact rwR hgs (Heap.get?_push_size _ rfl),hLne,⟨m,hns.keeps keepG,λx hx=>(hm x hx).mono (mi _ _) (eF keepG)⟩,by rw[hgs];simp;rfl⟩)
 exact⟨SN.1,SN.2 _,VR.ref S.last,q⟩
theorem i6(hG:GCx C G){gi:Nat}(S:Sim C H ρ s)(hl:ρ[gi]? =aa l)(hH:H[gi]? =aa (.gen gn)):∃ k,s.heap.IsGen l.a k:=by
 have o:fA G ρ s l gn:=by rw[<-hG.gr];exact (S.objs gi _ l hH hl)
 exact gD o λgk nm qn hg ho hm=>⟨gk,_,nm,qn,ho,rfl,rfl,rfl⟩
theorem tW{g:GFn}(e:g.nx gi H Q):∃ gn,H[gi]? =aa (.gen gn):=e.elim λgn h _=>⟨gn,aDk h⟩
inductive GnM{C:Cx}(ρ:ac Lc)(s:ak)(gi:Nat):au->(bz->Prop)->Prop
 |mk {l k} (h1:ρ[gi]? =aa l) (h2:s.heap.IsGen l.a k):GnM ρ s gi (.ref l.a) (λ_=>fe)
def eR(hG:GCx C G)(r0:Nat)(VV:∀ L,GV C r0 G g (G.envL L)):ItK C where
 σ:=Nat
 nx:=λgi H Q=>g.nx gi H λo H'=>Q (o.map λv=>(v,gi)) H'
 rel:=λρ s gi x X=>∃ l,ρ[gi]? =aa l/\x= .ref l.a/\X=λ_=>fe
 mid:=λρ s gi u x X=>GnM (C:=C) ρ s gi x X
 tg:=λ_=>vx
 need:=r0+2
 mono:=λh e i hk=>xEA h λl h1 h=>⟨l,aQ e h1,h⟩
 alive:=λh b hb=>cX h λl h1 h2 h3=>by subst h3;exact hb.elim
 next:=by
  rintro A s ρ H gi x X Q r hnd hr S ⟨l,hl,rfl,rfl⟩ hX e
  have hr':Room (r0+2) A:=by
   refine xAA hr λh1 h2 h3=>?_
   exact⟨h1,A40 hnd h2,A41 hnd h3⟩
  have nxi:∀ {ρ' s'},Nx ρ noW s ρ' s'->NxI ρ (λ_=>fe) s ρ' s':=λN=>⟨N.pre,N.new,N.kp,N.imm,λb o e _=>N.al b o e⟩
  refine wmN (uJ hG VV hr' S hl e) λo s' p=>?_
  cases p with
  |item S' N' r' hg q=>
   refine xE hg λgn hH=>?_
   refine xE (i6 hG S' (aQ N'.pre hl) hH) λk hk=>?_
   exact .item S' (nxi N') r' (.mk (aQ N'.pre hl) hk) q
  |done S' N' q=>exact .done S' (nxi N') q
 lgo:=by
  rintro A s ρ H it x X u target r hr S M _ hX
  cases M with
  |mk h1 h2=>
   refine gD h2 λo nm qn h2 h3 _=>?_
   exact jD (T:="generator") h2 h3 (by decide) ⟨S,.refl,_,h1,rfl,rfl⟩
theorem iH.gen(hG:GCx C G)(VV:∀ L,GV C r0 G g (G.envL L)):iH (eR hG r0 VV):=by
 rintro A s ρ H it x X Q S ⟨y,hy⟩ ⟨l,h1,rfl,rfl⟩ h
 exact xE (tW hy) λgn hH=>xE (i6 hG S h1 hH) λk hk=>tw hk h
def iG(f:EF):Lo->MH->(Nat->MH->Prop)->Prop:=λlo H Q=>f lo H λv H1=>Lf v.rf λi=>(∃ gn,H1[i]? =aa (.gen gn))/\Q i H1
theorem IV.gen(hG:GCx C G)(VV:∀ L,GV C r0 G g (G.envL L))(h:EV C r env e f):IV (eR hG r0 VV) r env e (iG f):=λ_ _ _ _ _ _ hr S F q=>h.run hr S F q λS1 N1 r1 q=>q.elim λi hi q=>by
  refine cX (r1.toRef hi) λl _ z105 g1=>rwL z105 ?_
  refine xA q λz106 q=>?_;obtain⟨gn,hH⟩:=z106
  exact xE (i6 hG S1 g1 hH) λk hk=>tw hk ⟨S1,N1,⟨l,g1,rfl,rfl⟩,λb hb=>hb.elim,q⟩
def iB(K:ItK C)(ai:Nat):Nat->K.σ->MH->(MH->Prop)->Prop
 |0,_,_,_=>fe
 |n+1,it,H,Q=>K.nx it H λres H1=>match res with
  |none=>Q H1
  |some p=>Lf (H1[ai]?.bind MO.own) λvs=>vs.length<1000000/\iB K ai n p.2 (H1.set ai (.list (vs++[p.1]))) Q
inductive XEnd(C:Cx)(ρ0:ac Lc)(s0:ak)(ai:Nat)(l:Lc)(Q:MH->Prop)(s':ak):Prop
 |mk {ρ' H'} (S:Sim C H' ρ' s') (N:Nx ρ0 noW s0 ρ' s') (hl:ρ'[ai]? =aa l) (q:Q H'):XEnd C ρ0 s0 ai l Q s'
theorem uW{K:ItK C}(hneed:K.need<=r)(hlg:∀ {ρ s it x X u},K.mid ρ s it u x X->K.rel ρ s it x X):∀ (n:Nat){A:ef}{s0 s:ak}{ρ0 ρ:ac Lc}{H:MH}{it:K.σ}{x:au}{X:bz->Prop}{Q:MH->Prop},Room r A.in1->ρ[ai]? =aa l->Nx ρ0 noW s0 ρ s->Sim C H ρ s-> K.rel ρ s it x X->(∀ b,X b->s0.heap.get? b=none/\¬Own ρ b/\C.base.heap.get? b=none)->iB K ai n it H Q-> kr C.M A (.builtin "list.extend.loop" ⟨[.ref l.a,x,res],[]⟩) (λrr s'=>rr= .ok (.ret res)/\XEnd C ρ0 s0 ai l Q s') s:=λn=>by
 induction n with
 |zero=>
  intro _ _ _ _ _ _ _ _ _ _ _ _ _ _ _ _ e
  exact e.elim
 |succ n ih=>
  intro A s0 s ρ0 ρ H it x X Q hr hl N S R hX e
  refine codeAny_builtin PySem.F.entry_extend_loop (rwL (Around.under_plainId PySem.F.plain_extend_loop _) (zzB (wmN (K.next hneed hr S R (λb q=>⟨(hX b q).2.1,(hX b q).2.2⟩) e) λo s1 p=>?_)))
  cases p with
  |done S1 I1 q=>exact zzP ⟨rfl,S1,N.stepI I1 (λb q=>(hX b q).1),aQ I1.pre hl,q⟩
  |item S1 I1 ru R1 q=>
   refine q.elim λvs hv q=>xEE (k9 S1 (aQ I1.pre hl) (k8 hv)) λxs nn O=>?_
   have hz:xs.size<=wi:=by exact rwL dh (A33 O.r.sz q.1)
   have hX1:=λb q=>xE (K.alive R b q) λo' e'=>I1.owns e' (hX b q).2.1
   refine zzB (qo O.x rfl (zzP ?_) hz (by rw[Array.size_push];exact kh hz))
   have st:=O.put (k:=s1.toks) S1 (λxs=>xs.push _) (by simpa using O.r.append (.cons ru .nil))
   have N2:=st.2 noW
   exact⟨vr PySem.F.plain_extend_loop _,ih hr (aQ I1.pre hl) ((N.stepI I1 (λb q=>(hX b q).1)).trans N2) st.1 (K.mono (hlg R1) N2.pre N2.imm (λb o q e'=>N2.kp b o e' (hX1 b q) (λz=>z))) (λb q=>⟨(hX b q).1,hX1 b q,(hX b q).2.2⟩) q.2⟩
theorem zV(hT1:(Value.type T==Value.type "list")=af)(hT2:(Value.type T==Value.type "tuple")=af)(hno1:fq (.type T) "__len__" =pure none)(hno2:fq (.type T) "__length_hint__" =pure none){a:bz}(hty:s.TypeIs (.ref a) T)(hit:∀ {A':ef}{E' Q':au->ak->Prop} (s':ak),s'.heap.get? a=s.heap.get? a->Q' (.ref a) s'->ar C.M A' (ut (.ref a)) Q' E' s')(k:∀ h' n,h'.get? s.heap.objs.size=aa (wb "list" #[] n)->(∀ b o,s.heap.get? b=aa o->h'.get? b=aa o)->kr C.M A.in1 (.builtin "list.extend.loop" ⟨[.ref s.heap.objs.size,.ref a,.none],[]⟩) (λrr s'=>rr= .ok (.ret .none)/\Q (.ref s.heap.objs.size) s') {s with heap:=h'}):
  ar C.M A (call (.type "list") [.ref a]) Q NoE s:=by
 refine callType_codes (Q₁:=λobj s₁=>obj= .ref s.heap.objs.size/\s₁= {s with heap:=s.heap.push {cls:=.type "list",data:=.seq #[]}}) PySem.F.called_list (PySem.F.typeCall_list_1 _) PySem.F.entry_list_init
  (code_list_new _ ⟨rfl,rfl⟩) λobj s₁ h₁=>?_
 refine xA h₁ λz107 z108=>?_;clear h₁;subst z107;subst z108
 refine xEA hty λoa hoa hca=>?_
 have hS:(s.heap.push {cls:=.type "list",data:=.seq #[]}).get? s.heap.objs.size=aa (wb "list" #[] 0):=Heap.get?_push_size _ rfl
 refine⟨⟨_,hS,rfl⟩,PySem.F.args_list_init_2 _ _,?_⟩
 have oth:∀ {h:lu}{f:kq au->kq au},(∀ b o,s.heap.get? b=aa o->h.get? b=aa o)->∀ b o,s.heap.get? b=aa o->(h.update s.heap.objs.size (Obj.mapSeq f)).get? b=aa o:=λ{h f} q b o e=>
  (Heap.get?_update_ne _ _ _ _ (qg (Heap.lt_size e))).trans (q b o e)
 refine zzB (listItems_at hS rfl (zzB (sx hS rfl (zzB (wy ?_)) (gw _) (gw _))))
 have k1:=oth (f:=λ_=>(#[]:kq au)) (λb o e=>Heap.get?_push_of_some _ e:∀ b o,s.heap.get? b=aa o->(s.heap.push {cls:=.type "list",data:=.seq #[]}).get? b=aa o)
 obtain⟨n1,h1⟩:∃ e1,((s.heap.push {cls:=.type "list",data:=.seq #[]}).update s.heap.objs.size (Obj.mapSeq λ_=>(#[]:kq au))).get? s.heap.objs.size=aa (wb "list" #[] e1):=⟨_,qp hS λ_=> #[]⟩
 revert k1 h1
 generalize (s.heap.push {cls:=.type "list",data:=.seq #[]}).update s.heap.objs.size (Obj.mapSeq λ_=>(#[]:kq au))=h2
 refine λk1 h1=>(zzB (tS ⟨oa,k1 _ _ hoa,hca⟩ ?_))
 have g1:Builtin.List.listSameRef (.ref s.heap.objs.size) (.ref a)=af:=by simp only[Builtin.List.listSameRef];simpa using (λq=>by exact Nat.lt_irrefl _ (q▸(Heap.lt_size hoa)))
 simp only[g1,hT1,hT2,Bool.or_false,jd,jw]
 refine zzB (hit _ ((k1 _ _ hoa).trans hoa.symm) (zzB (ax (zzB (ma ⟨oa,k1 _ _ hoa,hca⟩ hno1 (zzB (ma ⟨oa,k1 _ _ hoa,hca⟩ hno2 (zzP ?_))))))))
 show ar _ A.in1.in1 (rule "list.extend.makes-room" >>=λ_=>Builtin.List.listTouch (.ref s.heap.objs.size) >>=λ_=>
  again (.builtin "list.extend.loop" ⟨[.ref s.heap.objs.size,.ref a,.none],[]⟩)) _ _ _
 refine zzB (pp (zzB (zzB (qo h1 rfl ?_ (by rw[dh];decide) (by rw[dh];decide)))))
 obtain⟨n2,h2'⟩:∃ e1,(h2.update s.heap.objs.size (Obj.mapSeq λxs=>xs.push .none)).get? s.heap.objs.size=aa (wb "list" #[.none] e1):=⟨_,qp h1 λxs=>xs.push .none⟩
 refine qo h2' rfl ?_ (by rw[dh];decide) (by rw[dh];decide)
 obtain⟨n3,h3⟩:∃ e1,((h2.update s.heap.objs.size (Obj.mapSeq λxs=>xs.push .none)).update s.heap.objs.size (Obj.mapSeq λxs=>xs.pop)).get? s.heap.objs.size=aa (wb "list" #[] e1):=⟨_,qp h2' λxs=>xs.pop⟩
 exact zzP ⟨vr PySem.F.plain_extend_loop _,jz (k _ n3 h3 (oth (oth (f:=λxs=>xs.push .none) k1))) λrr s5 p=>(xA p λe q=>e▸⟨rfl,q⟩)⟩
theorem p9{K:ItK C}(hneed:K.need<=r)(hlg:∀ {ρ s it x X u},K.mid ρ s it u x X->K.rel ρ s it x X)(hT1:(Value.type T==Value.type "list")=af)(hT2:(Value.type T==Value.type "tuple")=af)(hno1:fq (.type T) "__len__" =pure none)(hno2:fq (.type T) "__length_hint__" =pure none){it:K.σ}{a:bz}(hr:Room (r+1) A)(N0:Nx ρ0 noW s0 ρ s)(S:Sim C H ρ s)(R:K.rel ρ s it (.ref a) X)(hX:∀ b,X b->s0.heap.get? b=none/\¬Own ρ b/\C.base.heap.get? b=none)(hty:s.TypeIs (.ref a) T)(hit:∀ {A':ef}{E' Q':au->ak->Prop} (s':ak),s'.heap.get? a=s.heap.get? a->Q' (.ref a) s'->ar C.M A' (ut (.ref a)) Q' E' s')(e:iB K H.length n it (H++[.list []]) Q):ar C.M A (call (.type "list") [.ref a]) (bR C ρ0 s0 λv H'=>v= .ref H.length/\Q H') NoE s:=by
 refine zV hT1 hT2 hno1 hno2 hty hit λh' n1 hD kp=>?_
 have g:=S.grow (k:=s.toks) (l:=⟨s.heap.objs.size,s.heap.objs.size,none⟩) (m:=.list []) kp (bG _) (bG _) rfl ⟨rfl,rfl,_,_,hD,.nil⟩
 have N1:=g.2 noW
 have hr1:Room r A.in1.in1:=by
  exact xAA hr λh1 h2 h3=>⟨h1,A42 h2,A43 h3⟩
 refine jz (uW (ρ0:=ρ0) hneed hlg n hr1 S.last (N0.trans N1) g.1 (K.mono R N1.pre N1.imm (λb o q e'=>N1.kp b o e' (hX b q).2.1 (λz=>z)))
  (λb q=>⟨(hX b q).1,xE (K.alive R b q) λo' e'=>N1.own e' (hX b q).2.1,(hX b q).2.2⟩) e) λrr s5 p=>?_
 obtain⟨rfl,S5,N5,hl5,q⟩:=p
 exact⟨rfl,S5,N5,.ref hl5,rfl,q⟩
theorem aCu(hG:GCx C G)(VV:∀ L,GV C r0 G g (G.envL L))(hnd:r0+2<=r)(hr:Room (r+1) A)(S:Sim C H ρ s)(hl:ρ[gi]? =aa l)(hH:H[gi]? =aa (.gen gn))(e:iB (eR hG r0 VV) H.length n gi (H++[.list []]) Q):ar C.M A (call (.type "list") [.ref l.a]) (bR C ρ s λv H'=>v= .ref H.length/\Q H') NoE s:=by
 exact xE (i6 hG S hl hH) λk hk=>p9 (K:=eR hG r0 VV) hnd (λM=>by cases M with |mk h1 h2=>exact⟨_,h1,rfl,rfl⟩) (by decide) (by decide) PySem.F.gen_no_len PySem.F.gen_no_hint hr .refl S ⟨l,hl,rfl,rfl⟩ (λb hb=>hb.elim) hk.typeIs (λs' h q=>(iI hk λo nm qn h2 h3=>tw ⟨o,nm,qn,h.trans h2,h3⟩ q)) e
def isG(H:MH)(vs:ac V):ae Nat:=((one vs).bind V.rf).bind λi=>(H[i]?.bind MO.gn).map λ_=>i
def bW(K:ItK C)(σ:Nat->K.σ):CF:=λvs H Q=>match isG H vs with
 |some i=>∃ n,iB K H.length n (σ i) (H++[.list []]) λH'=>Q (.ref H.length) H'
 |none=>cList vs H Q
theorem CV.listG(hG:GCx C G)(VV:∀ L,GV C r0 G g (G.envL L))(hnd:r0+2<=r):CV C (r+1) (.type "list") (bW (eR hG r0 VV) (λi=>i)):=by
 refine⟨eQ,?_⟩
 intro A s ρ H us vs Q hr S rs e
 unfold bW at e
 split at e
 ·rename_i i hi
  refine xE e λn e=>xEA (aj.mp hi) λj hj hi=>xEA (df.mp hi) λgn hgn z109=>?_;subst z109
  refine xEA (aj.mp hj) λv hv hj=>xEA (jW rs hv) λu z110 ru=>rwL z110 ?_
  refine cX (ru.toRef hj) λl z111 z112 gl=>rwR z111 (rwL z112 ?_)
  refine wmN (aCu hG VV hnd hr S gl (aDk hgn) e) λx s' p=>?_
  obtain⟨S',N',r',hv',q⟩:=p
  subst hv'
  exact⟨S',N',r',q⟩
 ·exact CV.list.call hr S rs e
structure KCx(C:Cx)(K:sy):Prop where
 mem:K.In C.base.heap
 makes:makesIn K dY=ag
 init:findIn K (.ref dY) "__init__" =aa (aa (.ref 160))
 initT:typeIn K (.ref 160)=aa (.type "function")
 callS:specialIn K (.ref dY) "__call__" =aa (aa (.builtin "type.__call__"))
 callM:specialIn K (.ref aF) "__call__" =aa (aa (.builtin "type.__call__"))
 typM:instIn K (.ref aF) (.type "type")=aa ag
 clsM:∃ oc od cd sl,K.lookup aF=aa ⟨oc,od,.cls cd,sl⟩/\cd.mro= [.ref aF,.type "tuple",.type "object"]/\cd.hasDel=af/\cd.hasDict=af/\cd.slotNames= []/\(sl.toList[4]?).join=aa .none/\cd.abstract=af/\cd.collection=none
 clsS:∃ oc od cd sl,K.lookup dY=aa ⟨oc,od,.cls cd,sl⟩
 readsM:readsIn K aF (.type "type")=ag
 newM:findCls K (.ref aF) (.type "type") "__new__" =aa (.get (.builtin "staticmethod.__get__") (.ref 136) .none (.ref aF))
 makeM:findCls K (.ref aF) (.type "type") "_make" =aa (.get (.builtin "classmethod.__get__") (.ref 91) .none (.ref aF))
 smM:recIn K 136 "staticmethod" =aa [.ref 82]
 cmM:∃ b,recIn K 91 "classmethod" =aa [.ref 89,b]
 initM:findIn K (.ref aF) "__init__" =aa (aa (.builtin "object.__init__"))
 newT:typeIn K (.ref 82)=aa (.type "function")
theorem t9{K:sy}(hK:K.In C.base.heap)(hc:∃ oc od cd sl,K.lookup c=aa ⟨oc,od,.cls cd,sl⟩)(hcall:specialIn K (.ref c) "__call__" =aa (aa (.builtin "type.__call__"))):∀ h:lu,(∀ b o,C.base.heap.get? b=aa o->h.get? b=aa o)->∃ k,(k=Keeper.frame\/k=Keeper.machine\/k=Keeper.boundFrame)/\mq C.M h (keeperOf (.ref c)) k:=by
 refine λh hk=>(xEEEE hc λoc od cd sl e=>?_)
 have X:=hK.keeps hk
 exact⟨.machine,.inr (.inl rfl),(Looks.ld (X _ _ e)).andThen ((looks_specialIn X hcall).andThen (Looks.of_pure (by simp)))⟩
theorem Room.under_call(hr:Room (r+1) A):Room r (A.under (.builtin "type.__call__" ⟨.ref c::rest,[]⟩)):=by
 refine xAA hr λh1 h2 h3=>?_
 have w1:(Code.builtin "type.__call__" ⟨.ref c::rest,[]⟩).weight=1:=by first |rfl |kernel_rfl
 have w2:(Code.builtin "type.__call__" ⟨.ref c::rest,[]⟩).cUnits=1:=by first |rfl |kernel_rfl
 refine⟨h1,(rwL w1 (A30 h2):A.depth+(Code.builtin "type.__call__" ⟨.ref c::rest,[]⟩).weight+10*r<=700),?_⟩
 ·exact(rwL w2 (A44 h3):A.units+(Code.builtin "type.__call__" ⟨.ref c::rest,[]⟩).cUnits+40*r<=8000)
def cNew(g:CF):CF:=λvs H Q=>g (.ref H.length::vs) (H++[.inst λ_=>none]) λv H'=>v= .none/\Q (.ref H.length) H'
theorem sW.run(h:kr C.M A c (sW C ρ s Q) s0)(k:∀ {x s' ρ' v H'},Sim C H' ρ' s'->Nx ρ noW s ρ' s'->VR ρ' s'.heap x v->Q v H'->R (.ok (.ret x)) s'):kr C.M A c R s0:=jz h λrr s' hh=>by
  cases rr with
  |error x=>exact hh.elim
  |ok f=>
   cases f with
   |ret x=>exact by cases hh with |mk S N r q=>exact k S N r q
   |_=>exact hh.elim
theorem CV.sm{K:sy}(hK:KCx C K)(hi:CC C r (.ref 160) g):CV C (r+1) (.ref dY) (cNew g):=by
 refine⟨t9 hK.mem hK.clsS hK.callS,?_⟩
 intro A s ρ H us vs Q hr S rs e
 have X:=hK.mem.keeps S.keep
 obtain⟨h,gg,d,t,os⟩:=s
 refine jc (make_core (makes_of X hK.makes) (kj X hK.init) (λself=>bind_fn X self hK.initT) (.inl rfl) ?_)
 have G:=S.grow (l:=⟨h.objs.size+1,h.objs.size,none⟩) (m:=.inst λ_=>none) (k:=t) (λb o e=>Heap.get?_push_of_some _ (Heap.get?_push_of_some _ e)) (Heap.get?_none_of_le (lw _)) (bG _) rfl ⟨rfl,qg (ni _),⟨_,(by heap_get:((h.push emptyDict).push (instObj dY h.objs.size)).get? (h.objs.size+1)=aa (instObj dY h.objs.size)),rfl,rfl,rfl⟩,λ_=>none,
  Heap.Ns1.of_empty ⟨_,#[],_,(Heap.get?_push_of_some _ (Heap.get?_push_at rfl rfl)),rfl,λe he=>ba he (by simp),λ_=>rfl⟩,⟨_,(Heap.get?_push_of_some _ (Heap.get?_push_at rfl rfl)),rfl,rfl⟩,λx hx=>ba rfl hx,λ_=>trivial⟩
 have hl:=S.last (l:=⟨h.objs.size+1,h.objs.size,none⟩)
 exact sW.run (hi hr.under_call G.1 (.cons (.ref hl) (rs.nx (G.2 noW))) e) λS2 N2 r2 q=>by
  exact xA q λq1 q=>⟨(r2.noT (by rw[q1];rfl)),S2,(G.2 _).trans N2,.ref (aQ N2.pre hl),q⟩
theorem aBz(a b c d:au):po "object.__init__" ⟨[a,b,c,d],[]⟩:=by delta po;kernel_rfl
noncomputable abbrev rF(i j k:au)(n:Nat)(dd:ae bz):Obj:= {cls:=.ref aF,dict:=dd,data:=.seq #[i,j,k] n}
def NewM(C:Cx)(r:Nat):Prop:=∀ {A:ef}{s:ak}{ρ:ac Lc}{H:MH}{a b c:au}{i j k:Int},Room r A->Sim C H ρ s->VR ρ s.heap a (.int i)->VR ρ s.heap b (.int j)->VR ρ s.heap c (.int k)->
 kr C.M A (.call (.ref 82) ⟨[.ref aF,a,b,c],[]⟩) (sW C ρ s λv H'=>v= .mat i j k/\H'=H) s
def matF(H:MH)(is:ac Int):ae (V×MH):=match is with | [i,j,k]=>aa (.mat i j k,H) |_=>none
def wM:CF:=lf λvs H=>(Tis vs).bind (matF H)
theorem VR.toMat(r:VR ρ h u v)(e:v= .mat i j k):∃ a n t1 t2 t3 dd,u= .ref a/\h.get? a=aa (rF (.int i t1) (.int j t2) (.int k t3) n dd):=by
 subst e
 exact j7 r.inv λa n t u v dd h1 h2=>⟨a,n,t,u,v,dd,h1,h2⟩
theorem rC{K:sy}(hK:KCx C K)(X:K.In h):mq C.M h (mroOf (.ref aF)) [.ref aF,.type "tuple",.type "object"]:=by
 exact qN hK.clsM λoc od cd sl eC hmro _=>rwR hmro (((Looks.ld (X _ _ eC)).andThen .now).andThen .now)
theorem t6{K:sy}(hK:KCx C K)(X:K.In h):mq C.M h (Bind.madeBy (.ref aF)) none:=by
 refine hF hK.clsM λoc od cd sl eC hmro hdel hdict hsn hsl habs hcol=>λA Q E s k q=>(zzB ((rC hK X) A _ E s k ?_))
 rw[lx]
 exact zzB (zzB (zzB (zzB (uw (k _ _ (X _ _ eC)) (zzP (rwR Array.getElem?_toList (rwL hsl (zzP (zzP (zzP q))))))))))
theorem rS{K:sy}(hK:KCx C K)(X:K.In h)(hT:T= .ref aF\/T= .type "tuple" \/T= .type "object"):mq C.M h (nq (.ref aF) T) ag:=by
 exact qN hK.clsM λoc od cd sl eC hmro _=>looks_mroIn X (by unfold mroIn clsIn;refine rwL eC ?_;rcases hT with rfl |rfl |rfl<;>simp [hmro])
set_option maxHeartbeats 1000000 in
theorem CV.mat{K:sy}(hK:KCx C K)(hn:NewM C r):CV C (r+1) (.ref aF) wM:=by
 refine CV.of (t9 hK.mem (hK.clsM.elim λoc h=>h.elim λod h=>h.elim λcd h=>h.elim λsl h=>⟨oc,od,cd,sl,h.1⟩) hK.callM) λ{A s ρ H us vs v H'} hr S rs e=>?_
 refine xEA (aj.mp e) λis hi e=>?_
 refine xEA (rs.ints hi) λts hl1 hl2=>?_
 refine vC (aC4 (F:=matF H) e rfl (λ_=>rfl) (λ_ _=>rfl) λ_ _ _ _ _=>rfl) λi j k z=>?_;subst z
 ·cases e
  refine vC (ts3 hl1 hl2) λta tb tc z113=>?_;subst z113
  clear rs hi hl1 hl2
  have X:=hK.mem.keeps S.keep
  refine hF hK.clsM λoc od cd sl eC hmro hdel hdict hsn hsl habs hcol=>?_
  have hC:=X _ _ eC
  have call:=looks_specialIn (M:=C.M) X hK.callM
  have typ:=looks_instIn (M:=C.M) X hK.typM
  refine jc ?_
  obtain⟨h,g,d,t,os⟩:=s
  refine mc ?_
  show ar _ _ (callAny (.ref aF) _) _ _ _
  refine nd_load hC ?_
  show ar _ _ (callAny.viaDunder (.ref aF) _) _ _ _
  unfold callAny.viaDunder
  refine zzB (call.at ?_)
  dsimp only
  rw[tc_bind]
  refine zzB (zzP (zzB (zzP ?_)))
  refine zzP (a:=PySem.Fin.again (.call (.builtin "type.__call__") ⟨.ref aF::[.int i ta,.int j tb,.int k tc],[]⟩)) (And.intro rfl ?_)
  refine codeAny_call_builtin_at (Code.quiet_builtin _ (by decide+kernel)) entry_typeCall (uc tc_kind tc_split typ (tc_args _ _ _) ?_)
  unfold Builtin.«type.__call__»
  have made:=t6 hK X
  have hm:=rC hK X
  have isT:=rS hK X (.inl rfl)
  have lkI:=kj (M:=C.M) X hK.initM
  have att:∀ {A':ef}{E':au->ak->Prop}{Q':au->ak->Prop}{b:dj},Q' (.ref 82) ⟨h,g,d,t+1,os⟩->ar C.M A' (vi (.ref aF) "__new__" b) Q' E' ⟨h,g,d,t,os⟩:=λhq=>cls_bind X hK.readsM hK.newM (jc (sm_get (s:=⟨h,g,d,t+1,os⟩) X hK.smM (handed_on (by decide+kernel:handedIn (.ref 82)=ag) hq)))
  repeat (first |with_reducible refine att ?_ |simp only[jd,jw] |with_reducible refine jc ?_ |lk)
  refine sW.run (hn (s:=⟨h,g,d,t+1,os⟩) hr.under_call (S.toks _) (.int i ta) (.int j tb) (.int k tc)) λ{x s1 ρ1 v1 H1} S1 N1 r1 q=>?_
  refine xA q λq1 z114=>?_;clear q;subst z114
  refine j7 (r1.toMat q1) λx n1 t1 u1 w1 dd1 z115 hx=>?_;subst z115
  rw[q1]at r1
  have X1:=hK.mem.keeps S1.keep
  clear att isT made typ call hm lkI hC X hn
  have tx:mq C.M s1.heap (qw (.ref x)) (.ref aF):=(Looks.ld hx).andThen .now
  have isT1:=rS hK X1 (.inl rfl)
  have lkI:=kj (M:=C.M) X1 hK.initM
  have made1:=t6 hK X1
  have isO:mq C.M s1.heap (ud (.ref x) (.type "object")) ag:=tx.andThen (rS hK X1 (.inr (.inr rfl)))
  have hC1:=X1 _ _ eC
  have hm1:=rC hK X1
  have fin:EPo C ρ ⟨h,g,d,t,os⟩ H1 (.mat i j k) (.ref x) s1:=⟨ρ1,S1,(Nx.toks (t+1)).trans N1,r1⟩
  clear S1 N1 S r1 q1 X1
  obtain⟨h1,g1,d1,tt1,os1⟩:=s1
  dsimp only at hx tx isT1 lkI isO hm1 made1 hC1
  unfold ud ue specialOf
  have bi:=Looks.of_pure (M:=C.M) (h:=h1) (oi_bind (.ref x))
  repeat (first |with_reducible refine jc ?_ |rw[Bool.not_true,jd,jw] |lk)
  refine jh oi_plain entry_oi (uc oi_kind oi_split isO (aBz _ _ _ _) ?_)
  repeat (first |rw[List.isEmpty_cons,Bool.not_false,Bool.not_true,Bool.true_or,su,jd,jw,vh] |lk)
  exact fin
theorem aFl:ou "tuple.__new__" =aa .builtinFn:=by decide+kernel
theorem aAt:splitId "tuple.__new__" =aa ("tuple","__new__"):=by decide+kernel
theorem aAu:xh "tuple.__new__" =ag:=by decide+kernel
theorem aFm:Builtin.Slots.bestBase [.type "tuple"]=pure (.type "tuple"):=by first |rfl |kernel_rfl
structure sV(M:xw)(h:lu):Prop where
 obj:∃ oc od cd sl,h.get? aF=aa ⟨oc,od,.cls cd,sl⟩/\cd.hasDel=af
 isT:mq M h (isType (.ref aF)) ag
 sub:mq M h (nq (.ref aF) (.type "tuple")) ag
 base:mq M h (Bind.staticBase (.ref aF)) (.type "tuple")
 init:mq M h (fq (.ref aF) "__init__") (aa (.builtin "object.__init__"))
theorem mfacts{K:sy}(hK:KCx C K)(hbs:∃ oc od cd sl,K.lookup aF=aa ⟨oc,od,.cls cd,sl⟩/\cd.bases= [.type "tuple"])(X:K.In h):sV M h:=by
 refine hF hK.clsM λoc od cd sl eC hmro hdel hdict hsn hsl habs hcol=>mT hbs λoc' od' cd' sl' eC' hbase=>?_
 rw[eC]at eC'
 cases eC'
 have hC:=X _ _ eC
 have hm:mq M h (mroOf (.ref aF)) cd.mro:=((Looks.ld hC).andThen .now).andThen .now
 rw[hmro]at hm
 have made:mq M h (Bind.madeBy (.ref aF)) none:=by
  refine λA Q E s k q=>(zzB (hm A _ E s k ?_))
  rw[lx]
  exact zzB (zzB (zzB (zzB (uw (k _ _ hC) (zzP (rwR Array.getElem?_toList (rwL hsl (zzP (zzP (zzP q))))))))))
 refine⟨⟨oc,od,cd,sl,hC,hdel⟩,(Looks.ld hC).andThen .now,looks_mroIn X (by unfold mroIn clsIn;rw[eC];simp [hmro]),?_,kj X hK.initM⟩
 ·refine λA Q E s k q=>(zzB (hm A _ E s k ?_))
  rw[lx]
  refine zzB (zzB (zzB (made A _ E s k (rwL (aq (by decide)) (zzB (((Looks.ld hC).andThen .now:mq M h (classData aF) cd) A _ E s k (rwL hbase (rwL aFm (zzB (zzP (zzP ?_)))))))))))
  dsimp only
  rw[lx,PySem.F.called_tuple.made]
  exact zzB (zzB (zzP (rwL (aw (by decide)) (zzP (zzP (zzP q))))))
set_option maxHeartbeats 1000000 in
theorem y9(F:∀ h,(∀ b o,s.heap.get? b=aa o->h.get? b=aa o)->sV (gz prog w) h)(hx:s.heap.get? tp=aa {cls:=.type "tuple",data:=.seq xs n})(hsz:xs.size<100)(h:∀ h' x dd,(∀ b o,s.heap.get? b=aa o->h'.get? b=aa o)->h'.get? x=aa {cls:=.ref aF,dict:=dd,data:=.seq xs}->s.heap.get? x=none->R (.ok (.ret (.ref x))) {s with heap:=h'}):
  kr (gz prog w) A (.call (.builtin "tuple.__new__") ⟨[.ref aF,.ref tp],[]⟩) R s:=by
 obtain⟨⟨oc,od,cd,sl,hC,hdel⟩,isT,sub,base,init⟩:=F s.heap (λ_ _ e=>e)
 have mt:=PySem.F.called_tuple.made
 refine jh aAu PySem.F.entry_tuple_new ?_
 obtain⟨hh,g,d,t,os⟩:=s
 dsimp only at*
 delta checkBuiltinCall;dsimp only;rw[aFl,aAt];dsimp only
 have col:∀ {A':ef}{E':au->ak->Prop}{Q':ac au->ak->Prop},(∀ h',(∀ b o,hh.get? b=aa o->h'.get? b=aa o)->Q' xs.toList ⟨h',g,d,t,os⟩)->ar (gz prog w) A' (collect (.ref tp)) Q' E' ⟨hh,g,d,t,os⟩:=by
  intro A' E' Q' hq
  exact wpAny_collect_seq tp (.inr rfl) hx rfl rfl hq (by rw[dh];exact A2 hsz)
 repeat (first |simp only[Bool.not_true,jd,jw,nu,vh] | (rw[mt];refine zzP ?_) |with_reducible refine col ?_ |lk)
 intro h1 hk1
 refine zzB (zzP (zzB (wpAny_alloc (zzB ?_))))
 delta newObj
 dsimp only
 rw[aq (by simp [dh];exact A2 hsz)]
 unfold newObjAsIs classHasDel
 have hC1:=hk1 _ _ hC
 refine zzB (wpAny_alloc (zzB (zzB (wpAny_load (Heap.get?_push_of_some _ (Heap.get?_push_of_some _ hC1)) (zzP ?_)))))
 rw[hdel]
 refine zzP (zzP ?_)
 refine h _ _ _ (λb o e=>Heap.get?_push_of_some _ (Heap.get?_push_of_some _ (hk1 b o e))) (by exact rwL Array.toArray_toList (Heap.get?_push_size _ rfl)) ?_
 cases q:hh.get? (h1.push {cls:=.type "dict",data:=.dict #[]}).objs.size with
 |none=>rfl
 |some o=>
  have:=Heap.get?_push_of_some {cls:=.type "dict",data:=.dict #[]} (hk1 _ _ q)
  rw[bG]at this;cases this
theorem nil_in(h:lu):Frag.In [] h:=λ_ _ e=>by cases e
theorem aAc:findCls [] (.type "tuple") (.type "type") "__new__" =aa (.val (.builtin "tuple.__new__")):=by first |decide+kernel |kernel_rfl
theorem zZ(h:Q (.builtin "tuple.__new__",[]) {s with toks:=s.toks+1}):ar (gz prog w) A (getMethod (.type "tuple") "__new__" pl) Q E s:=by
 have X:=nil_in s.heap
 have hstub:opaqueClassAbove (.type "tuple")=pure none:=by delta opaqueClassAbove;dsimp only;rw[show Manifest.isStub "tuple" =af by decide+kernel];rfl
 have ht:qw (.type "tuple")=pure (.type "type"):=by first |rfl |kernel_rfl
 refine zzB (zzB ((Looks.of_pure ht).here ((kj X type_tga).here ?_)))
 dsimp only
 refine rwL (aw canon_tga) (zzB (dv ?_ (λ_ _ z=>zzP z) λ_ _ z=>z))
 refine cls_open X (Looks.of_pure hstub) (Looks.of_pure ht) type_tga (looks_hook X (by rfl)) (by rfl) aAc
  (zzP (by exact rwL (handedOut_of (by decide+kernel:handedIn (.builtin "tuple.__new__")=ag)) (zzP h)))
def V.rw:V->ae bz | .raw a=>aa a |_=>Option.none
theorem VR.toRaw{a:bz}(r:VR ρ h u v)(e:v.rw=aa a):u= .ref a:=by
 cases v with
 |raw=>exact cxS e r.inv
 |_=>first |exact aE e |cases e
def i3(l:ac Int):ae (Int×Int×Int):=match l with | [i,j,k]=>aa (i,j,k) |_=>none
theorem i3_ok(e:i3 l=aa p):l= [p.1,p.2.1,p.2.2]:=by
 refine vC (aC4 e rfl (λ_=>rfl) (λ_ _=>rfl) λ_ _ _ _ _=>rfl) λa b c z=>?_;subst z;refine cxS e ?_;rfl
def aAw(vs:ac V):ae (ac Int):=match vs with | [a,b]=>if a.rw=aa 135 then b.tp.bind Tis else none |_=>none
theorem aAv(r:VRs ρ h us vs)(e:aAw vs=aa is):∃ tp xs n ts,us= [.ref 135,.ref tp]/\h.get? tp=aa {cls:=.type "tuple",data:=.seq xs n}/\ts.length=is.length/\xs.toList=(is.zip ts).map λx=>Value.int x.1 x.2:=by
 refine xEE (rO e rfl (λ_=>rfl) λ_ _ _ _=>rfl) λa b z=>?_;subst z
 replace e:=show (if _ then _ else _)=_ from e
 split at e
 ·rename_i h1
  refine xEA (aj.mp e) λws h2 e=>bZ r.a2 λu v z116 ru rv=>rwL z116 ?_
  refine cN (rv.toTup h2) λtp xs n _ z117 g rs=>rwL z117 ?_
  exact xEA (rs.ints e) λts t1 t2=>⟨tp,xs,n,ts,by rw[ru.toRaw h1],g,t1,t2⟩
 ·exact aE e
def yQ(fs:EFs):EF:=λlo H Q=>fs lo H λvs H1=>Lf ((aAw vs).bind i3) λp=>Q (.mat p.1 p.2.1 p.2.2) H1
theorem EV.tnew(F0:∀ h,(∀ b o,C.base.heap.get? b=aa o->h.get? b=aa o)->sV C.M h)(hg:Glo C "tuple" (.type "tuple"))(hk:env.kindOf "tuple" =aa .globalImplicit)(ha:EVs C r env es fs)(hfl:mC env es)(sh:eZ env (.Name "tuple" np) "__new__" apos pos es):EV C r env (.Call (.Attribute (.Name "tuple" np) "__new__" apos) es [] pos) (yQ fs):=λA s ρ H lo Q hr S F q=>eV (P:=λ_ _=>vx) sh.base sh.few sh.line (lD hg hk (by decide+kernel) S F λpl=>zZ (ot (by rw[hfl.2];rfl) cB
  (wmN (kO ha hfl hr (S.toks (s.toks+1)) (F.nx (.toks _)) q) λa s1 p=>by
  obtain⟨ps,kw⟩:=a
  obtain⟨hkw,S1,N1,rs,q⟩:=p
  subst hkw
  refine⟨S1.keep,q.elim λp hp q=>(xEA (aj.mp hp) λis h1 h2=>mS (aAv rs h1) λtp xs n ts hps gt t1 t2=>?_)⟩
  subst hps
  obtain rfl:=i3_ok h2
  refine vC (ts3 t1 t2) λt u w t3=>?_
  have hx3:=Array.toList_inj.mp t3
  subst hx3
  exact jc (y9 (λh hk=>F0 h λb o e=>hk b o (S1.keep b o e)) gt (show 3<100 by decide) λh' x dd hk hx hnx=>⟨S1.extS hk,(Nx.toks _).trans (N1.trans (.ext hk)),.mat hx,q⟩))))
structure KMx(C:Cx)(K:sy):Prop where
 toK:KCx C K
 bases:∃ oc od cd sl,K.lookup aF=aa ⟨oc,od,.cls cd,sl⟩/\cd.bases= [.type "tuple"]
 iter:findIn K (.ref aF) "__iter__" =aa (aa (.builtin "tuple.__iter__"))
 len:findIn K (.ref aF) "__len__" =aa (aa (.builtin "tuple.__len__"))
 lt:findIn K (.ref aF) "__lt__" =aa (aa (.builtin "tuple.__lt__"))
 tup:subIn K (.ref aF) (.type "tuple")=aa ag
theorem aA6:pd qj "tuple.__iter__" =aa Builtin.«tuple.__iter__»:=lh ⋯
theorem aA2:pd qj "tuple.__len__" =aa Builtin.«tuple.__len__»:=lh ⋯
theorem aFp:ou "tuple.__iter__" =aa .slot:=by decide+kernel
theorem aA4:splitId "tuple.__iter__" =aa ("tuple","__iter__"):=by decide+kernel
theorem aA5:xh "tuple.__iter__" =ag:=by decide+kernel
theorem aFq(a:au):po "tuple.__iter__" ⟨[a],[]⟩:=by delta po;kernel_rfl
theorem aFn:ou "tuple.__len__" =aa .slot:=by decide+kernel
theorem aA0:splitId "tuple.__len__" =aa ("tuple","__len__"):=by decide+kernel
theorem aA1:xh "tuple.__len__" =ag:=by decide+kernel
theorem aFo(a:au):po "tuple.__len__" ⟨[a],[]⟩:=by delta po;kernel_rfl
theorem ifb{b:dj}(L:mq M s.heap m x)(h:Q (aa x) s):ar M A (if b=ag then(do let y<-m;pure (aa y)) else(do let y<-m;pure (aa y):Sem (ae (au×ac au))).tryCatch λ_=>do rule "special.get-raises-dropped";pure none) Q E s:=by
 split
 ·exact zzB (L.here (zzP h))
 ·exact wpAny_tryCatch (zzB (L.here (zzP h)))
set_option maxHeartbeats 1000000 in
theorem vO{K:sy}(hK:KMx C K){a:bz}(X:K.In s.heap)(hx:s.heap.get? a=aa {cls:=.ref aF,dict:=dd,data:=.seq xs n})(h:Q (.ref s.heap.objs.size) {s with heap:=s.heap.push {cls:=.type "tuple_iterator",data:=.fields #[.ref a,.int 0 0]}}):ar C.M A (ut (.ref a)) Q E s:=by
 obtain⟨hh,g,d,t,os⟩:=s
 have tx:mq C.M hh (qw (.ref a)) (.ref aF):=(Looks.ld hx).andThen .now
 have L1:=kj (M:=C.M) X hK.iter
 repeat (first |with_reducible refine jc ?_ |lk)
 refine ifb (Looks.of_pure (M:=C.M) (h:=hh) (slot_tuple_iter.bind (.ref a))) ?_
 repeat (first |rw[show (Value.builtin "tuple.__iter__" ==Value.none)=af from by decide,jd,jw] |with_reducible refine jc ?_ |lk)
 refine jh aA5 aA6 (uc aFp aA4 (tx.andThen (vd X hK.tup)) (aFq _) ?_)
 show ar _ _ (do ret (<-newFields "tuple_iterator" [.ref a,rawInt 0])) _ _ _
 refine zzB (dp (zzP (zzP (zzB (zzB (tS ⟨_,Heap.get?_push_size _ rfl,rfl⟩ ?_))))))
 exact ja ku.lookup (zzP h)
theorem jX(hit:IsTupIter s.heap it t i)(hol:s.heap.get? t=aa ol)(hdl:ol.data= .seq items nl)(hx:items[i]? =aa x)(hQ:∀ h',IsTupIter h' it t (i+1)->Heap.SameBut it s.heap h'->Q (aa x) {s with heap:=h'}):ar (gz prog w) A (mx (.ref it)) Q E s:=by
 refine cX (id hit) λo ho hc hd=>?_
 delta mx
 refine zzB (ml (dm hit.typeIs ku
  (eo ku hit.typeIs ve ?_ (vn _))))
 show ar _ _ (field (.ref it) 0 >>=_) _ _ s
 refine zzB (hB ho hd (x:=.ref t) rfl (rwL (aq (show¬((Value.ref t==Value.none)=ag) from Bool.false_ne_true)) (zzB (hB ho hd rfl (zzB (iq hol hdl ?_))))))
 simp only[ii,hx]
 refine zzB (pe ho hd (by simp) (zzP ⟨x,rfl,zzP (hQ _ ?_ (Heap.SameBut.update ..))⟩))
 exact⟨_,Heap.get?_update_self _ ho (Obj.isFreed_of_fields (Obj.data_mapFields hd _)),(Obj.cls_mapFields ..).trans hc,by
  rw[Obj.data_mapFields hd];simp [rawInt]⟩
theorem zP(hh:A.handled=none)(hit:IsTupIter s.heap it t i)(hol:s.heap.get? t=aa ol)(hdl:ol.data= .seq items nl)(hx:items[i]? =none)(hQ:∀ h',Heap.ExtBut it s.heap h'->Q none {s with heap:=h'}):ar (gz prog w) A (mx (.ref it)) Q E s:=by
 refine cX (id hit) λo ho hc hd=>?_
 delta mx
 refine zzB (ml (dm hit.typeIs ku
  (eo ku hit.typeIs ve ?_ (vn _))))
 show ar _ _ (field (.ref it) 0 >>=_) _ _ s
 refine zzB (hB ho hd (x:=.ref t) rfl (rwL (aq (show¬((Value.ref t==Value.none)=ag) from Bool.false_ne_true)) (zzB (hB ho hd rfl (zzB (iq hol hdl ?_))))))
 simp only[ii,hx]
 refine zzB (pp (zzB (pe ho hd (by simp) (zzB (zzB (dp (zzB (ja (a:=Value.none) (by first |rfl | (rfl)) (dp ?_ (by size_fits)))) (by size_fits)))))))
 delta raiseNew;refine zzB (sv ?_)
 first |refine rwL (show A.in1.handled=none from hh) ?_ |rw[hh]
 refine zzB (zzP (uy ?_))
 refine zzB (lq ⟨_,Heap.get?_push_size _ rfl,rfl⟩ ri ?_)
 exact zzP (hQ _ (((Heap.SameBut.update ..).extBut.push _).push _))
theorem vF{K:sy}(hK:KMx C K){a:bz}(hh:A.handled=none)(X:K.In s.heap)(hx:s.heap.get? a=aa {cls:=.ref aF,dict:=dd,data:=.seq #[x,y,z] n})(hn:targets.length=3)(hstar:targets.findIdx? (·.1)=none)(h:∀ h',(∀ b o,s.heap.get? b=aa o->h'.get? b=aa o)->ar C.M A (pz (targets.map (·.2)) [x,y,z]) Q E {s with heap:=h'}):ar C.M A (unpack (.ref a) targets) Q E s:=by
 delta unpack
 refine rwL hn (rwL hstar (zzB (ax ?_)))
 delta ww
 refine zzB (zzB (zzB (((Looks.ld hx).andThen .now:mq C.M s.heap (qw (.ref a)) (.ref aF)).here ((kj (M:=C.M) X hK.iter).here (zzP (zzB (ax (vO hK X hx ?_))))))))
 have hne:=qg (Heap.lt_size hx)
 have hx0:=Heap.get?_push_of_some {cls:=.type "tuple_iterator",data:=.fields #[.ref a,.int 0 0]} hx
 refine zzB (ax (zzB (jX ⟨_,Heap.get?_push_size _ rfl,rfl,rfl⟩ hx0 rfl (x:=x) rfl λh1 hit1 hs1=>?_)))
 have hx1:=hs1.extBut a _ hne hx0
 refine zzB (ax (zzB (jX (s:= {s with heap:=h1}) hit1 hx1 rfl (x:=y) rfl λh2 hit2 hs2=>?_)))
 have hx2:=hs2.extBut a _ hne hx1
 refine zzB (ax (zzB (jX hit2 hx2 rfl (x:=z) rfl λh3 hit3 hs3=>?_)))
 have hx3:=hs3.extBut a _ hne hx2
 refine zzB (ax (zzP (zzP (zzP (zzP (rwL (aq (by simp)) (zzB (ax (zP hh hit3 hx3 rfl rfl λh4 he4=>(zzP (h h4 λb o e=>?_)))))))))))
 have hb:=qg (Heap.lt_size e)
 exact he4 b o hb (hs3.extBut b o hb (hs2.extBut b o hb (hs1.extBut b o hb (Heap.get?_push_of_some _ e))))
def V.mt:V->ae (Int×Int×Int) | .mat i j k=>aa (i,j,k) |_=>Option.none
theorem mt_ok{v:V}(e:v.mt=aa p):v= .mat p.1 p.2.1 p.2.2:=by
 cases v with
 |mat=>refine cxS e ?_;rfl
 |_=>first |exact aE e |cases e
def cG(n:Nat)(g:AFs):AF:=λv lo H Q=>match v.mt with
 |some p=>n=3/\g [.int p.1,.int p.2.1,.int p.2.2] lo H Q
 |none=>wQ n g v lo H Q
theorem AV.tupleM{K:sy}(hK:KMx C K){pos}(h:AVs C r env ts g)(hn:(eh ts env).length=n)(hstar:(eh ts env).findIdx? (·.1)=none):AV C r env (.Tuple ts k pos) (cG n g):=by
 intro A s ρ H lo u v Q hr S F rv e
 unfold cG at e
 split at e
 ·rename_i p hp
  obtain⟨h3,e⟩:=e
  subst h3
  obtain⟨a,n,t1,t2,t3,dd,rfl,hx⟩:=rv.toMat (mt_ok hp)
  rw[assign_Tuple]
  exact zzB (dw (vF hK hr.1 (hK.toK.mem.keeps S.keep) hx hn hstar λh' hk=>(wmN (h hr (S.extS hk) (F.nx (.ext hk)) (.cons (.int _ _) (.cons (.int _ _) (.cons (.int _ _) .nil))) e) λ_ _ p=>p.from (Nx.ext hk))))
 ·exact AVW.tuple h hn hstar hr S F rv e
def cM:CF:=λvs H Q=>match (one vs).bind V.mt with
 |some _=>Q (.int 3) H
 |none=>cLen vs H Q
set_option maxHeartbeats 1000000 in
theorem sQ{K:sy}(hK:KMx C K){s:ak}{a:bz}(X:K.In s.heap)(hx:s.heap.get? a=aa {cls:=.ref aF,dict:=dd,data:=.seq xs n})(hfit:(xs.size:Int)<2 ^ 63)(h:Q (.int xs.size (s.toks+1)) {s with toks:=s.toks+1+1}):ar C.M A (call (.builtin "len") [.ref a]) Q E s:=by
 refine vo kind_len plain_len entry_len (args_len1 _) ?_
 unfold Builtin.«len»
 refine zzB (m:=oneArg "len" _) (zzP ?_)
 have tx:mq C.M s.heap (qw (.ref a)) (.ref aF):=(Looks.ld hx).andThen .now
 have key:∀ {A':ef}{E':au->ak->Prop}{Q':ae au->ak->Prop},Q' (aa (.int xs.size s.toks)) {s with toks:=s.toks+1}->ar C.M A' (ue (.ref a) "__len__") Q' E' s:=by
  intro A' E' Q' hq
  refine zzB (zzB (tx.here ((kj (M:=C.M) X hK.len).here (ax (zzB ((Looks.of_pure (M:=C.M) (h:=s.heap) (slot_tuple_len.bind (.ref a))).here (zzB (jc (jh aA1 aA2 (uc aFn aA0 (tx.andThen (vd X hK.tup)) (aFo _) ?_))))))))))
  show ar _ _ (do let ts<-Builtin.Tuple.tupleItemsOf (.ref a);retInt ts.size) _ _ s
  refine zzB (zzB (iq hx rfl (zzP (zzB (wpAny_mkInt (zzP (zzP hq)))))))
 exact zzB (key (zzB (ax (zzP (zzB (wy (rwL (aq A14) (rwL (aq (A45 hfit)) (zzB (wpAny_mkInt (zzP ⟨_,rfl,h⟩)))))))))))
theorem CV.lenM{K:sy}(hK:KMx C K):CV C r (.builtin "len") cM:=by
 refine⟨cB,?_⟩
 intro A s ρ H us vs Q hr S rs e
 unfold cM at e
 split at e
 ·rename_i p hp
  refine xEA (aj.mp hp) λv hv hp=>xEA (jW rs hv) λu z119 ru=>rwL z119 ?_
  refine j7 (ru.toMat (mt_ok hp)) λa n t1 t2 t3 dd z120 hx=>rwL z120 ?_
  exact sQ hK (hK.toK.mem.keeps S.keep) hx (by simp) (.tok S (.int _ _) e)
 ·exact CV.len.call hr S rs e
theorem v0:fq (.type "map") "__len__" =pure none:=by rw[dt,bp];kernel_rfl
theorem tZ:fq (.type "map") "__length_hint__" =pure none:=by rw[dt,bp];kernel_rfl
theorem aCn:Slot "map" "__init__" "object.__init__" :=.of (owner:="object") (n:="__init__") (by rw[dt,bp];kernel_rfl) (by decide+kernel) (by decide+kernel) (by decide+kernel)
  (by first |exact .inl (by decide+kernel) |exact .inr (by decide+kernel)) (by rw[ir];kernel_rfl)
theorem iY:Slot "map" "__next__" "map.__next__" :=.of (owner:="map") (n:="__next__") (by rw[dt,bp];kernel_rfl) (by decide+kernel) (by decide+kernel) (by decide+kernel)
  (by first |exact .inl (by decide+kernel) |exact .inr (by decide+kernel)) (by rw[ir];kernel_rfl)
theorem t5:Slot "map" "__iter__" "map.__iter__" :=.of (owner:="map") (n:="__iter__") (by rw[dt,bp];kernel_rfl) (by decide+kernel) (by decide+kernel) (by decide+kernel)
  (by first |exact .inl (by decide+kernel) |exact .inr (by decide+kernel)) (by rw[ir];kernel_rfl)
theorem iX:pd qj "map.__next__" =aa Builtin.«map.__next__»:=lh ⋯
theorem jM(a:au):po "map.__next__" ⟨[a],[]⟩:=by delta po;kernel_rfl
theorem nD:pd qj "map.__iter__" =aa Builtin.«dict_keyiterator.__iter__»:=uv (id':="dict_keyiterator.__iter__") (by rw[fastTable_eq_tree];kernel_rfl) (by first |rfl |decide+kernel) (by decide+kernel) (by rw[fastTable_eq_tree];kernel_rfl)
theorem pL(a:au):po "map.__iter__" ⟨[a],[]⟩:=by delta po;kernel_rfl
theorem xP:mroOf (.type "map")=pure [.type "map",.type "object"]:=by rw[mroOf_type];kernel_rfl
theorem aCm:fq (.type "map") "__new__" =pure (aa (.builtin "map.__new__")):=by rw[dt,bp];kernel_rfl
theorem v4:TypeCalled "map" "map.__new__" "object.__init__" :=⟨by decide+kernel,by decide+kernel,⟨_,_,xP⟩,madeBy_type xP aCm (by decide+kernel),by decide+kernel,by rw[ir];kernel_rfl,aCn⟩
theorem zT(a b:au):checkTypeCall "map" ⟨[a,b],[]⟩=pure ():=by kernel_rfl
theorem zU(a b:au):checkBuiltinCall "map.__new__" ⟨[.type "map",a,b],[]⟩=pure ():=by kernel_rfl
theorem pK:pd qj "map.__new__" =aa Builtin.«map.__new__»:=lh ⋯
theorem aGo:nq (.type "map") (.type "map")=pure ag:=by rw[ir];kernel_rfl
noncomputable abbrev aCp(h:lu)(l:bz):lu:=h.push {cls:=.type "list_iterator",data:=.fields #[.ref l,.int 0 0]}
noncomputable abbrev xQ(h:lu)(l:bz):lu:=(aCp h l).push {cls:=.type "tuple",data:=.seq #[.ref h.objs.size]}
noncomputable abbrev aCo(h:lu)(f:au)(l:bz):lu:=(xQ h l).push {cls:=.type "map",data:=.fields #[.ref (aCp h l).objs.size,f]}
theorem pJ(f:au)(l:bz)(xs:kq au):Meets (Builtin.«map.__new__» ⟨[.type "map",f,.ref l],[]⟩) (λ_ R s=>s.heap.IsList l xs/\R (.ok (.ret (.ref (xQ s.heap l).objs.size))) {s with heap:=aCo s.heap f l}):=.of_wp λprog w A R s h=>by
  obtain⟨hp,g,d,tk,os⟩:=s;refine xA h λhl1 h=>?_
  have hsub:=aGo
  wp_walk using oz hl1
  exact⟨_,rfl,h⟩
theorem aEy(hl:s.heap.IsList l xs)(h:Q (.ref (xQ s.heap l).objs.size) {s with heap:=aCo s.heap f l}):ar (gz prog w) A (call (.type "map") [f,.ref l]) Q E s:=by
 exact callType_new v4 (by decide) (zT _ _) (zU _ _) (λobj=>PySem.F.args_object_init_3 obj _ _) pK (pJ f l xs) ⟨hl,⟨⟨_,Heap.get?_push_size _ rfl,rfl⟩,h⟩⟩
theorem jY(hit:s.heap.IsListIter it l i)(hl:s.heap.IsList l items)(hx:items[i]? =aa x)(hQ:∀ h',h'.IsListIter it l (i+1)->Heap.SameBut it s.heap h'->Q (aa x) {s with heap:=h'}):ar (gz prog w) A (ue (.ref it) "__next__") Q E s:=by
 refine cX (id hit) λo ho hc hd=>wW hl λol hol _ nl hdl=>dm hit.typeIs jy
  (eo jy hit.typeIs qr ?_ (rh _))
 show ar _ _ (field (.ref it) 0 >>=_) _ _ s
 refine zzB (hB ho hd (x:=.ref l) rfl (rwL (aq (show¬((Value.ref l==Value.none)=ag) from Bool.false_ne_true)) (zzB (hB ho hd rfl (zzB (iq hol hdl ?_))))))
 simp only[ii,hx]
 refine zzB (pe ho hd (by simp) (zzP ⟨x,rfl,hQ _ ?_ (Heap.SameBut.update ..)⟩))
 exact⟨_,Heap.get?_update_self _ ho (Obj.isFreed_of_fields (Obj.data_mapFields hd _)),(Obj.cls_mapFields ..).trans hc,by
  rw[Obj.data_mapFields hd];simp [rawInt]⟩
theorem kF(hh:A.handled=none)(hit:s.heap.IsListIter it l i)(hl:s.heap.IsList l items)(hx:items[i]? =none)(hE:∀ h' y,(∃ o,h'.get? y=aa o/\o.cls= .type "StopIteration")->Heap.ExtBut it s.heap h'->E (.ref y) {s with heap:=h'}):ar (gz prog w) A (ue (.ref it) "__next__") Q E s:=by
 refine cX (id hit) λo ho hc hd=>wW hl λol hol _ nl hdl=>dm hit.typeIs jy
  (eo jy hit.typeIs qr ?_ (rh _))
 show ar _ _ (field (.ref it) 0 >>=_) _ _ s
 refine zzB (hB ho hd (x:=.ref l) rfl (rwL (aq (show¬((Value.ref l==Value.none)=ag) from Bool.false_ne_true)) (zzB (hB ho hd rfl (zzB (iq hol hdl ?_))))))
 simp only[ii,hx]
 refine zzB (pp (zzB (pe ho hd (by simp) (zzB (zzB (dp (zzB (ja (a:=Value.none) (by first |rfl | (rfl)) (dp ?_ (by size_fits)))) (by size_fits)))))))
 delta raiseNew;exact zzB (sv (rwL (show A.in1.handled=none from hh) (zzB (zzP (uy (hE _ _ ⟨_,Heap.get?_push_size _ rfl,rfl⟩ (((Heap.SameBut.update ..).extBut.push _).push _)))))))
structure vB(h:lu)(z TI it m l:bz)(k:Nat):Prop where
 z:h.get? z=aa {cls:=.type "map",data:=.fields #[.ref TI,.ref m]}
 TI:h.get? TI=aa {cls:=.type "tuple",data:=.seq #[.ref it]}
 it:h.IsListIter it l k
 m:h.get? m=aa (methodObj (.ref 89) (.ref aF))
theorem aCl(P:vB s.heap z TI it m l k)(hzi:z≠it)(hTi:TI≠it)(hmi:m≠it)(hl:s.heap.IsList l items)(hx:items[k]? =aa x)(hQ:∀ h',vB h' z TI it m l (k+1)->Heap.SameBut it s.heap h'->kr (gz prog w) A.in1 (.call (.ref 89) ⟨[.ref aF,x],[]⟩) (λrr s'=>match rr with | .ok (.ret v)=>Q (aa v) s' |_=>fe) {s with heap:=h'}):
  ar (gz prog w) A (mx (.ref z)) Q E s:=by
 delta mx
 refine zzB (ml (dm ⟨_,P.z,rfl⟩ iY (eo iY ⟨_,P.z,rfl⟩ iX ?_ (jM _))))
 refine zzB (zzP (zzB (hB P.z rfl rfl (zzB (iq P.TI rfl ?_)))))
 dsimp only
 rw[<-Array.forIn_toList]
 rw[lx]
 refine zzB (zzB (zzB (ax (zzB (jY P.it hl hx λh1 hit1 hs1=>(zzP (zzP ?_)))))))
 dsimp only
 refine rwL wt (zzP ?_)
 have P1:vB h1 z TI it m l (k+1):=⟨hs1.extBut z _ hzi P.z,hs1.extBut TI _ hTi P.TI,hit1,hs1.extBut m _ hmi P.m⟩
 refine zzB (hB P1.z rfl rfl (zzB (ax (jc (method_call P1.m (jz (hQ h1 P1 hs1) ?_))))))
 intro rr s' hr
 cases rr with
 |error e=>exact hr.elim
 |ok f=>
  cases f with
  |ret v=>exact zzB (wy (zzP ⟨v,rfl,zzP hr⟩))
  |_=>exact hr.elim
theorem aGp(hh:A.handled=none)(P:vB s.heap z TI it m l k)(hl:s.heap.IsList l items)(hx:items[k]? =none)(hQ:∀ h',Heap.ExtBut it s.heap h'->Q none {s with heap:=h'}):ar (gz prog w) A (mx (.ref z)) Q E s:=by
 delta mx
 refine zzB (ml (dm ⟨_,P.z,rfl⟩ iY (eo iY ⟨_,P.z,rfl⟩ iX ?_ (jM _))))
 refine zzB (zzP (zzB (hB P.z rfl rfl (zzB (iq P.TI rfl ?_)))))
 dsimp only
 rw[<-Array.forIn_toList]
 rw[lx]
 exact zzB (zzB (zzB (ax (zzB (kF hh P.it hl hx λh1 y hy he=>(xEA hy λo ho hc=>zzB (lq ⟨o,ho,hc⟩ ri (zzP (hQ h1 he)))))))))
theorem Ti_eq(e:Ti v=aa i):v= .int i:=by
 cases v with
 |int=>refine cxS e ?_;rfl
 |_=>first |exact aE e |cases e
theorem aFb:∀ {vs:ac V}{is:ac Int},Tis vs=aa is->vs=is.map .int:=λ{n}=>by
 induction n with
 |nil=>
  intro _ e
  refine cxS e ?_;rfl
 |cons v vs ih=>
  intro is e
  simp only[Tis,vg,wf,aj,pure_def,Option.some.injEq]at e
  refine aAm e λi h1 js h2 z121=>?_;clear e;subst z121
  rw[Ti_eq h1,ih h2];rfl
def t3(v:V):ae (Int×Int×Int):=(v.tp.bind Tis).bind i3
theorem t3_eq(e:t3 v=aa p):v= .tup [.int p.1,.int p.2.1,.int p.2.2]:=by
 refine xEA (aj.mp e) λl h1 h2=>xEA (aj.mp h1) λws h3 h4=>?_
 obtain rfl:=i3_ok h2
 obtain rfl:=aFb h4
 cases v with
 |tup=>refine cyS h3 λzq=>?_;subst zq;rfl
 |_=>cases h3
def o0(C:Cx)(r:Nat):Prop:=∀ {A:ef}{s:ak}{ρ:ac Lc}{H:MH}{a:au}{i j k:Int},Room r A->Sim C H ρ s->VR ρ s.heap a (.tup [.int i,.int j,.int k])->
 kr C.M A (.call (.ref 89) ⟨[.ref aF,a],[]⟩) (sW C ρ s λv H'=>v= .mat i j k/\H'=H) s
inductive MpR(ρ:ac Lc)(h:lu)(σ:Nat×Nat):au->(bz->Prop)->Prop
 |mk {z TI it m l} (h1:ρ[σ.1]? =aa l) (n1:z≠it) (n2:TI≠it) (n3:m≠it) (P:vB h z TI it m l.a σ.2):MpR ρ h σ (.ref z) (λb=>b=z\/b=it\/b=m)
theorem MpR.mono(R:MpR ρ h σ x X)(e:ρ<+:ρ')(i:Imm h h')(hk:∀ b o,X b->h.get? b=aa o->h'.get? b=aa o):MpR ρ' h' σ x X:=by
 cases R with
 |mk h1 n1 n2 n3 P=>
  obtain⟨p1,p2,⟨o,p3,p3'⟩,p4⟩:=P
  exact .mk (aQ e h1) n1 n2 n3 ⟨hk _ _ (.inl rfl) p1,i _ _ p2 (by simp [bB]),⟨o,hk _ _ (.inr (.inl rfl)) p3,p3'⟩,hk _ _ (.inr (.inr rfl)) p4⟩
theorem NxI.thenN(I:NxI ρ X s ρ1 s1)(N:Nx ρ1 noW s1 ρ2 s2)(hX:∀ b,X b->(∃ o,s.heap.get? b=aa o)->∃ o,s1.heap.get? b=aa o):NxI ρ X s ρ2 s2:=by
 refine⟨I.pre.trans N.pre,λl hl=>(xE I.pre λt z122=>?_),λb o e ho hx=>N.kp b o (I.kp b o e ho hx) (I.owns e ho) id,I.imm.trans N.imm,λb o e hx=>xE (I.al b o e hx) λo' e'=>N.al b o' e'⟩;subst z122
 refine xE N.pre λt' z123=>?_;subst z123
 rw[dz,tm]at hl
 have fr:∀ b,s1.heap.get? b=none->s.heap.get? b=none:=λb hb=>by
  cases e:s.heap.get? b with
  |none=>rfl
  |some o=>
   refine xE (Classical.byCases (λq:X b=>hX b q ⟨o,e⟩) λq=>I.al b o e q) λo' e'=>?_
   cases (hb▸e')
 refine Or.elim (ij.mp hl) (λq=>(I.new l (by simpa using q))) λq=>?_
 ·have n:=N.new l (by simpa using q)
  exact⟨fr _ n.1,fr _ n.2⟩
def rP(C:Cx)(r0:Nat)(hm:o0 C r0):ItK C where
 σ:=Nat×Nat
 nx:=λit H Q=>Lf (lst H (.ref it.1)) λvs=>match vs[it.2]? with
  |none=>Q none H
  |some v=>Lf (t3 v) λp=>Q (aa (.mat p.1 p.2.1 p.2.2,(it.1,it.2+1))) H
 rel:=λρ s σ x X=>MpR ρ s.heap σ x X
 mid:=λρ s σ u x X=>MpR ρ s.heap σ x X
 tg:=λ_=>vx
 need:=r0+1
 mono:=λR e i hk=>R.mono e i hk
 alive:=λR b hb=>by
  cases R with
  |mk h1 n1 n2 n3 P=>
   obtain⟨p1,p2,⟨o,p3,p3'⟩,p4⟩:=P
   rcases hb with rfl |rfl |rfl
   ·exact⟨_,p1⟩
   ·exact⟨_,p3⟩
   ·exact⟨_,p4⟩
 next:=λ{A s ρ H σ x X Q r} hnd hr S R hX q=>by
  have hr':Room r0 A.in1:=by
   refine xAA hr λa b c=>?_
   exact⟨a,by show A.depth+10*r0<=700;exact A46 hnd b,by show A.units+1+40*r0<=8000;exact A47 hnd c⟩
  refine q.elim λvs hl q=>?_
  cases R with
  |mk h1 n1 n2 n3 P=>
  rename_i z TI it m l
  refine bZ (cJ S (.ref h1) hl) λad xs q1 q2 q3=>?_
  cases q1
  refine cX P.it λoi hoi hci hdi=>?_
  have hi:∀ o,s.heap.get? it=aa o->¬bB o:=λo' e'=>by rw[hoi]at e';cases e';exact rK hci hdi
  have hXi:=hX it (.inr (.inl rfl))
  cases hv:vs[σ.2]? with
  |some v=>
   rw[hv]at q
   refine Lf.elim (o:=t3 v) q λp hp q=>?_
   refine xEA (q3.get hv) λu hu ru=>?_
   rw[t3_eq hp]at ru
   refine aCl P n1 n2 n3 q2 (by simpa using hu) λh' P' hs=>?_
   have st:=S.iterStep (h':=h') (a:=it) (λb o hb e=>(hs.2 b hb).trans e) hi hXi.1 hXi.2
   refine sW.run (hm hr' st.1 (ru.mono (be _) st.2.imm)) λS2 N2 r2 q2=>?_
   refine xA q2 λqv z124=>?_;clear q2;subst z124
   have kp:∀ b o,(b=z\/b=it\/b=m)->h'.get? b=aa o->_:=λb o hb eb=>N2.kp b o eb (hX b hb).1 (λq=>q)
   have I2:=st.2.thenN N2 λb hb _=>by rw[show b=it from hb];refine xEA P'.it λo e _=>?_;exact⟨o,e⟩
   refine .item (it':=(σ.1,σ.2+1)) S2 ⟨I2.pre,I2.new,λb o e ho hb=>I2.kp b o e ho λq=>hb (.inr (.inl q)),I2.imm,λb o e hb=>I2.al b o e λq=>hb (.inr (.inl q))⟩ r2 ?_ (by rw[qv];exact q)
   refine xEA P'.it λoi' e1' e2'=>?_
   exact .mk (aQ N2.pre h1) n1 n2 n3 ⟨kp z _ (.inl rfl) P'.z,N2.imm _ _ P'.TI (by simp [bB]),⟨oi',kp it _ (.inr (.inl rfl)) e1',e2'⟩,kp m _ (.inr (.inr rfl)) P'.m⟩
  |none=>
   rw[hv]at q
   refine aGp hr.1 P q2 (Array.getElem?_eq_none (by rw[q3.sz];exact getElem?_eq_none_iff.mp hv)) λh' he=>?_
   have st:=S.iterStep (h':=h') (a:=it) (λb o hb e=>he b o hb e) hi hXi.1 hXi.2
   exact .done st.1 ⟨st.2.pre,st.2.new,λb o e ho hb=>st.2.kp b o e ho (λq=>hb (.inr (.inl q))),st.2.imm,λb o e hb=>st.2.al b o e (λq=>hb (.inr (.inl q)))⟩ q
 lgo:=λ{A s ρ H σ x X u target r} hr S R _ hX=>by
  have R':=R
  cases R with
  |mk h1 n1 n2 n3 P=>exact jD (T:="map") P.z rfl (by decide) ⟨S,.refl,R'⟩
theorem vP(hT:s.TypeIs (.ref z) "map")(h:Q (.ref z) s):ar (gz prog w) A (ut (.ref z)) Q E s:=by
 exact wpAny_pyIter_slot hT t5 (eo t5 hT nD (zzP ⟨_,rfl,"map",_,hT,iY.lookup,h⟩) (pL _))
theorem aCt(hm:o0 C r0)(hnd:r0+1<=r)(hr:Room (r+1) A)(N0:Nx ρ0 noW s0 ρ s)(S:Sim C H ρ s)(R:MpR ρ s.heap σ (.ref z) X)(hX:∀ b,X b->s0.heap.get? b=none/\¬Own ρ b/\C.base.heap.get? b=none)(e:iB (rP C r0 hm) H.length n σ (H++[.list []]) Q):ar C.M A (call (.type "list") [.ref z]) (bR C ρ0 s0 λv H'=>v= .ref H.length/\Q H') NoE s:=by
 have hz:∃ TI m,s.heap.get? z=aa {cls:=.type "map",data:=.fields #[TI,m]}:=by
  cases R with
  |mk h1 n1 n2 n3 P=>exact⟨_,_,P.z⟩
 exact xEE hz λTI m hz=>p9 hnd (λM=>M) (by decide) (by decide) v0 tZ hr N0 S R hX ⟨_,hz,rfl⟩ (λs' h q=>vP ⟨_,h.trans hz,rfl⟩ q) e
theorem rW{K:sy}(hK:KCx C K){b:dj}(X:K.In s.heap)(h:Q (.ref s.heap.objs.size) {s with heap:=s.heap.push (methodObj (.ref 89) (.ref aF)),toks:=s.toks+1}):ar C.M A (vi (.ref aF) "_make" b) Q E s:=by
 exact xE hK.cmM λbb hb=>cls_bind X hK.readsM hK.makeM (jc (cm_get X hb (handed_on rfl h)))
theorem vA(he:di (e::es) env=(af,iw e env)::di es env)(h:ar M A (spliced (ky pos (di (e::es) env))) (λvs s'=>Q ⟨vs,[]⟩ s') E s):ar M A (evalArgs f ag (ky pos (di (e::es) env)) []) Q E s:=by
 rw[he]at h ⊢
 exact evalArgs_plain h
def eLM(K:ItK C)(σ:Nat->K.σ)(f:EF):EF:=λlo H Q=>f lo H λa H1=>Lf a.rf λci=>(∃ vs,lst H1 (.ref ci)=aa vs)/\∃ n,iB K H1.length n (σ ci) (H1++[.list []]) λH2=>Q (.ref H1.length) H2
theorem EV.listMap{K:sy}(hK:KCx C K)(hm:o0 C r0)(hnd:r0+1<=r)(he:EV C (r+1) env e f)(gl:Glo C "list" (.type "list"))(gm:Glo C "map" (.type "map"))(gM:Glo C "Match" (.ref aF))(kl:env.kindOf "list" =aa .globalImplicit)(km:env.kindOf "map" =aa .globalImplicit)(kM:env.kindOf "Match" =aa .globalImplicit)(e1:di [.Call (.Name "map" p2) [.Attribute (.Name "Match" p3) "_make" p4,e] [] p5] env=(af,iw (.Call (.Name "map" p2) [.Attribute (.Name "Match" p3) "_make" p4,e] [] p5) env)::di [] env)(e2:di [.Attribute (.Name "Match" p3) "_make" p4,e] env=(af,iw (.Attribute (.Name "Match" p3) "_make" p4) env)::di [e] env)(e3:di [e] env=(af,iw e env)::di [] env)(b1:∀ pos,(ky pos (di [.Call (.Name "map" p2) [.Attribute (.Name "Match" p3) "_make" p4,e] [] p5] env)).any (·.1)=af)(b2:∀ pos,(ky pos (di [.Attribute (.Name "Match" p3) "_make" p4,e] env)).any (·.1)=af)(hab:jp (.Name "Match" p3) "_make" env (iw (.Name "Match" p3) env)=iw (.Name "Match" p3) env)(hlt:∀ o y,my (.Name "Match" p3) o y=pure ()):EV C (r+1) env (.Call (.Name "list" p1) [.Call (.Name "map" p2) [.Attribute (.Name "Match" p3) "_make" p4,e] [] p5] [] p6) (eLM (rP C r0 hm) (λi=>(i,0)) f):=by
 refine λA s ρ H lo Q hr S F q=>(mr (lD gl kl (by decide+kernel) S F (ot (by rw[b1];rfl) eQ (vA e1 (pi (mr (lD gm km (by decide+kernel) S F (ot (by rw[b2];rfl) eQ (vA e2 (pi (dM hab (lD gM kM (by decide+kernel) S F (rW hK (hK.mem.keeps S.keep) (pi (he.run hr ((S.push (methodObj (.ref 89) (.ref aF))).toks (s.toks+1)) (F.nx ((Nx.push _).trans (.toks _))) q λ{x s1 ρ1 v1 H1} S1 N1 r1 q=>q.elim λci hci q=>(xAE q λz125 n q=>xE z125 λvs hl=>?_)) e3)))) e2))))) e1)))))
 refine ui ⟨S1.keep,cX (r1.toRef hci) λlc _ z126 g=>rwL z126 ?_⟩
 refine bZ (cJ S1 (.ref g) hl) λad xs ha q2 q3=>?_
 cases ha
 have hom:=eU S (bG _)
 have hm1:=N1.kp _ _ (Heap.get?_push_size _ rfl) hom (λq=>q)
 have kp:∀ b o,s1.heap.get? b=aa o->(aCo s1.heap (.ref s.heap.objs.size) lc.a).get? b=aa o:=λb o e=>Heap.get?_push_of_some _ (Heap.get?_push_of_some _ (Heap.get?_push_of_some _ e))
 refine aEy q2 (ui ⟨λb o e=>kp b o (S1.keep b o e),?_⟩)
 have N01:=((Nx.push _).trans (.toks _)).trans N1
 have z2:(xQ s1.heap lc.a).objs.size=s1.heap.objs.size+2:=by rw[Heap.size_push,(Heap.size_push ..)]
 refine wmN (aCt hm (ρ0:=ρ) (σ:=(ci,0)) hnd hr (N01.trans (.ext kp)) (S1.extS kp)
  (.mk g (by exact rwL z2 (Nat.ne_of_gt (Nat.lt_add_of_pos_right (by decide)))) (by exact rwL (Heap.size_push ..) (Nat.ne_of_gt (ni _))) (qg (Heap.lt_size hm1))
   ⟨Heap.get?_push_size _ rfl,Heap.get?_push_of_some _ (Heap.get?_push_size _ rfl),⟨_,Heap.get?_push_of_some _ (Heap.get?_push_of_some _ (Heap.get?_push_size _ rfl)),rfl,rfl⟩,kp _ _ hm1⟩) (λb hb=>?_) q) λx s' p=>?_
 ·rcases hb with rfl |rfl |rfl
  ·exact c7 N01 S1 (by exact rwL z2 (Heap.get?_none_of_le (ly _ _)))
  ·exact c7 N01 S1 (bG _)
  ·exact⟨bG _,N1.own (Heap.get?_push_size _ rfl) hom,d3 S (bG _)⟩
 ·obtain⟨S',N',r',hv,q⟩:=p
  subst hv
  exact⟨S',N',r',q⟩
theorem Yn0:m<=n->¬(m<=p)->((2:Nat)*q)<=(p+m)->(p+m)<((2:Nat)*(q+(1:Nat)))->q<n:=zzM 0x32ba41f6b00007dac00be07da2a000007a2a02b0be007a2aa00107a68007 [m,n,p,q]
theorem Yn1:(m-n)<=(p+(1:Nat))->((2:Nat)*q)<=(n+m)->(n+m)<((2:Nat)*(q+(1:Nat)))->(m-(q+(1:Nat)))<=p:=zzM 0x4068a054aa07dac0a01001f6b002f81f68a400001e8a40ac2f801c1f6a029a01007 [m,n,p,q]
theorem Yn2: ¬(m<=n)->((2:Nat)*p)<=(n+m)->(n+m)<((2:Nat)*(p+(1:Nat)))->(p+(1:Nat))<=m:=zzM 0x65a01f6a00007da800be07da29000007a2902a0be007a29a00107 [m,n,p]
theorem Yn3:m<=n->¬(m<=p)->((2:Nat)*q)<=(p+m)->(p+m)<((2:Nat)*(q+(1:Nat)))->¬(n=q):=zzM 0xcae8ae904407dac00be07da2a000007a2a02b0be007a2aa00107a68007 [m,n,p,q]
theorem Yn4:m<n->p<=m->¬(p<=q)->((2:Nat)*r)<=(q+p)->(q+p)<((2:Nat)*(r+(1:Nat)))->r<n:=zzM 0x656e907db00001f6c002f81f6aac00001eaac0b02f801e8aea0041e8a801e907da00007 [m,n,p,q,r]
theorem Yn5:(m-n)<=(p+(1:Nat))->((2:Nat)*q)<=(n+m)->(n+m)<((2:Nat)*(q+(1:Nat)))->(q-n)<=p:=zzM 0x10312818aaa9ac1001f6b002f81f68a400001e8a40ac2f801c1f6a029a01007 [m,n,p,q]
theorem Yn6:m<=n->¬(m<=p)->((2:Nat)*q)<=(p+m)->(p+m)<((2:Nat)*(q+(1:Nat)))->q<=n:=zzM 0xcae9ac007dac00be07da2a000007a2a02b0be007a2aa00107a68007 [m,n,p,q]
theorem Yn7: ¬(m<=n)->((2:Nat)*p)<=(n+m)->(n+m)<((2:Nat)*(p+(1:Nat)))->n<=p:=zzM 0x1a6aa4007da800be07da29000007a2902a0be007a29a00107 [m,n,p]
theorem Yn8:m<=n->¬(m<=p)->n=q->((2:Nat)*q)<=(p+m)->(p+m)<((2:Nat)*(q+(1:Nat)))->fe:=zzM 0x9ae807dac00be07da2a000007a2a02b0be007ae9047a2aa00107a68007 [m,n,p,q]
def PW(n:Nat)(c:Nat->Nat->dj):KasT α->(α->Prop)->Prop
 | .ret a,Q=>Q a
 | .ask i j k,Q=>i<n/\j<n/\i≠j/\PW n c (k (c i j)) Q
theorem PW.bind{Q:β->Prop}:∀ {t:KasT α},PW n c t (λa=>PW n c (f a) Q)->PW n c (t.bind f) Q
 | .ret _,h=>h
 | .ask i j k,⟨h1,h2,h0,h3⟩=>⟨h1,h2,h0,PW.bind h3⟩
theorem PW.mono{Q':α->Prop}(hq:∀ a,Q a->Q' a):∀ {t:KasT α},PW n c t Q->PW n c t Q'
 | .ret _,h=>hq _ h
 | .ask i j k,⟨h1,h2,h0,h3⟩=>⟨h1,h2,h0,PW.mono hq h3⟩
theorem PW.wp{R:α->ak->Prop}{I:ak->Prop}(hc:∀ i j D s,i<n->j<n->i≠j->I s->(∀ s',I s'->D (c i j) s')->cmp i j D s)(hq:∀ a s,Q a->I s->R a s):∀ {t:KasT α},PW n c t Q->∀ s,I s->t.kasWp cmp R s
 | .ret _,h,s,hs=>hq _ s h hs
 | .ask i j k,⟨h1,h2,h0,h3⟩,s,hs=>hc i j _ s h1 h2 h0 hs λs' hs'=>PW.wp hc hq h3 s' hs'
structure Ord(n:Nat)(c:Nat->Nat->dj):Prop where
 tr:∀ x y z,c x y=ag->c y z=ag->c x z=ag
 tot:∀ x y,x<n->y<n->x≠y->c x y=ag\/c y x=ag
 asy:∀ x y,c x y=ag->c y x=af
def gt(p:kq Nat)(i:Nat):Nat:=p.getD i 0
structure Pm(n:Nat)(p:kq Nat):Prop where
 pm:p.Perm (List.toArray (List.range n))
theorem Pm.tl(P:Pm n p):p.toList.Perm (List.range n):=P.pm.toList
theorem Pm.sz(P:Pm n p):p.size=n:=by
 have:=P.tl.length_eq
 rw[uf]at this
 exact this
theorem Pm.at(P:Pm n p)(h:i<n):∃ h':i<p.toList.length,gt p i=p.toList[i]:=by
 have h':=P.sz.symm▸h
 refine⟨h',?_⟩
 delta gt
 rw[Array.getD_eq_getD_getElem?,Array.getElem?_eq_getElem h'];rfl
theorem Pm.lt(P:Pm n p)(i:Nat)(h:i<n):gt p i<n:=by
 obtain⟨h',e⟩:=P.at h
 exact rwL e (List.mem_range.mp (P.tl.mem_iff.mp (List.getElem_mem h')))
theorem Pm.inj(P:Pm n p)(i j:Nat)(hi:i<n)(hj:j<n)(h:gt p i=gt p j):i=j:=by
 obtain⟨h1,e1⟩:=P.at hi
 obtain⟨h2,e2⟩:=P.at hj
 rw[e1,e2]at h
 exact(List.getElem_inj (P.tl.nodup_iff.mpr List.nodup_range)).mp h
def Sd(c:Nat->Nat->dj)(p:kq Nat)(m:Nat):Prop:=∀ i j,i<j->j<m->c (gt p i) (gt p j)=ag
def Ds(c:Nat->Nat->dj)(p:kq Nat)(m:Nat):Prop:=∀ i j,i<j->j<m->c (gt p j) (gt p i)=ag
theorem Sd.snoc(O:Ord n c)(h:Sd c p k)(h1:1<=k)(hc:c (gt p (k-1)) (gt p k)=ag):Sd c p (k+1):=by
 intro i j hij hj
 rcases mw j k with q |q
 ·exact h i j hij q
 ·obtain rfl:j=k:=A63 hj q
  rcases mw i (j-1) with z |z
  ·exact O.tr _ _ _ (h i (j-1) z (A64 z)) hc
  ·obtain rfl:i=j-1:=A65 hij z
   exact hc
theorem Ds.snoc(O:Ord n c)(h:Ds c p k)(h1:1<=k)(hc:c (gt p k) (gt p (k-1))=ag):Ds c p (k+1):=by
 intro i j hij hj
 rcases mw j k with q |q
 ·exact h i j hij q
 ·obtain rfl:j=k:=A63 hj q
  rcases mw i (j-1) with z |z
  ·exact O.tr _ _ _ hc (h i (j-1) z (A64 z))
  ·obtain rfl:i=j-1:=A65 hij z
   exact hc
theorem other(O:Ord n c)(P:Pm n p)(hi:i<n)(hj:j<n)(hij:i≠j)(h:c (gt p i) (gt p j)=af):c (gt p j) (gt p i)=ag:=by
 rcases O.tot _ _ (P.lt i hi) (P.lt j hj) (λq=>hij (P.inj i j hi hj q)) with q |q
 ·cases (q▸h)
 ·exact q
theorem wO(O:Ord n c)(P:Pm n p):∀ (f k:Nat),1<=k->k+f<=n->Sd c p k->PW n c (kas_asc p f k) (λm=>k<=m/\m<=k+f/\Sd c p m/\(m<k+f->c (gt p m) (gt p (m-1))=ag)):=λl=>by
 induction l with
 |zero=>
  exact λk h1 h2 h=>⟨ce _,ce _,h,λq=>ba q (Nat.lt_irrefl _)⟩
 |succ f ih=>
  refine λk h1 h2 h=>⟨P.lt k (A66 h2),P.lt (k-1) (A67 h2),λq=>by exact(A68 h1 (P.inj k (k-1) (A66 h2) (A67 h2) q)).elim,?_⟩
  cases hc:c (p.getD k 0) (p.getD (k-1) 0) with
  |true=>exact⟨ce _,A69,h,λ_=>hc⟩
  |false=>
   show PW n c (if af=ag then _ else kas_asc p f (k+1)) _
   exact rwL (aq (by decide)) ((ih (k+1) A70 (A71 h2) (h.snoc O h1 (other O P (A66 h2) (A67 h2) (A72 h1) hc))).mono λm z=>xAAA z λa b d e=>⟨A32 a,A73 b,d,λq=>e (A74 q)⟩)
theorem yV(O:Ord n c)(P:Pm n p):∀ (f k:Nat),1<=k->k+f<=n->Ds c p k->PW n c (kas_desc f p k 0) (λr=>r.1=p/\r.2.2=0/\k<=r.2.1/\r.2.1<=k+f/\Ds c p r.2.1):=λl=>by
 induction l with
 |zero=>
  exact λk h1 h2 h=>⟨rfl,rfl,ce _,ce _,h⟩
 |succ f ih=>
  refine λk h1 h2 h=>⟨P.lt k (A66 h2),P.lt (k-1) (A67 h2),λq=>by exact(A68 h1 (P.inj k (k-1) (A66 h2) (A67 h2) q)).elim,?_⟩
  cases hc:c (p.getD k 0) (p.getD (k-1) 0) with
  |true=>
   show PW n c (if ag=ag then(if 0>0 then _ else kas_desc f p (k+1) 0) else _) _
   exact rwL (aw rfl) (rwL (aq A75) ((ih (k+1) A70 (A71 h2) (h.snoc O h1 hc)).mono λr z=>xAAAA z λa b d e g=>⟨a,b,A32 d,A73 e,g⟩))
  |false=>
   exact rwL (aq (by decide)) ⟨P.lt (k-1) (A67 h2),P.lt k (A66 h2),λq=>by exact(A76 h1 (P.inj (k-1) k (A67 h2) (A66 h2) q)).elim,rwL (other O P (A66 h2) (A67 h2) (A72 h1) hc) ⟨rfl,rfl,ce _,by exact(A69:k<=k+(f+1)),h⟩⟩
theorem uE(h:p[i]? =q[j]?):gt p i=gt q j:=by
 delta gt
 rw[Array.getD_eq_getD_getElem?,Array.getD_eq_getD_getElem?,h]
theorem aDh(hm:m<=p.size):gt (kas_rev p 0 m) k=if k<m then gt p (m-1-k) else gt p k:=by
 have h:=getElem?_mirror_all (i:=0) hm k
 split
 ·rename_i q
  rw[aw ⟨gw _,q⟩]at h
  refine uE (h.trans ?_)
  congr 1
  exact A77
 ·rename_i q
  rw[aq (λz=>q z.2)]at h
  exact uE h
theorem Pm.rev(P:Pm n p):Pm n (kas_rev p 0 m):=⟨(mirror_perm _ _ _ _).trans P.pm⟩
theorem Ds.rev(P:Pm n p)(hm:m<=n)(h:Ds c p m):Sd c (kas_rev p 0 m) m:=by
 intro i j hij hj
 rw[aDh (by rw[P.sz];exact hm),aDh (by rw[P.sz];exact hm),aw (A53 hij hj),aw hj]
 exact h _ _ (A78 hij hj) (A79 hj)
theorem aEq(O:Ord n c)(P:Pm n p)(hn:1<=n):PW n c (kas_count n p) (λr=>Pm n r.2/\1<=r.1/\r.1<=n/\Sd c r.2 r.1):=by
 delta kas_count
 refine PW.bind ((wO O P (n-1) 1 (ce _) (A80 hn) (λi j h1 h2=>(A81 h1 h2).elim)).mono λm x=>xAAA x λa b d e=>?_)
 split
 ·rename_i hm
  exact⟨P,a,A82 hn b,d⟩
 ·rename_i hm
  have hm':=by simpa using hm
  split
  ·rename_i h1
   exact⟨P.lt 0 (A83 b h1),P.lt (m-1) (A84 b h1),λq=>by exact(A85 h1 (P.inj 0 (m-1) (A83 b h1) (A84 b h1) q)).elim,rwL (d 0 (m-1) (A86 h1) (A87 h1)) ⟨P,a,A88 b h1,d⟩⟩
  ·rename_i h1
   obtain rfl:m=1:=A89 a h1
   have hd:Ds c p 2:=by
    intro i j h2 h3
    obtain rfl:j=1:=A90 h2 h3
    obtain rfl:i=0:=A91 h2
    exact e (A92 hn hm')
   delta kas_descPart
   refine PW.bind ((yV O P (n-(1+1)) 2 A93 (A94 hn hm') hd).mono λr y=>xAAAA y λr1 r2 r3 r4 r5=>?_)
   rw[aq (A95 r2)]
   delta kas_tail3
   refine rwL r1 ?_
   have hrn:=A96 hn hm' r4
   exact PW.bind ((wO O P.rev (n-r.2.1) r.2.1 (A97 r3) (A98 hrn) (r5.rev P hrn)).mono λm' z=>xAAA z λa' b' d' e'=>⟨P.rev,by exact(A99 r3 a':1<=m'),by exact(A100 hrn b':m'<=n),d'⟩)
theorem m9(O:Ord n c)(P:Pm n p)(hk:k<n)(hs:Sd c p k):∀ (f l r:Nat),l<=r->r<=k->r-l<=f->(∀ i,i<l->c (gt p i) (gt p k)=ag)->(∀ i,r<=i->i<k->c (gt p k) (gt p i)=ag)-> PW n c (kas_place p k f l r) (λx=>x<=k/\(∀ i,i<x->c (gt p i) (gt p k)=ag)/\(∀ i,x<=i->i<k->c (gt p k) (gt p i)=ag)):=λzz=>by
 induction zz with
 |zero=>
  exact λl r h1 h2 h3 h4 h5=>⟨A101 h1 h2,h4,λi hi=>h5 i (A102 h3 hi)⟩
 |succ f ih=>
  intro l r h1 h2 h3 h4 h5
  unfold kas_place
  split
  ·exact⟨A101 h1 h2,h4,λi hi=>h5 i (by omega)⟩
  ·rename_i hlr
   refine⟨P.lt k hk,P.lt ((l+r)/2) (Yn4 hk h2 hlr zzD zzE),λq=>by exact Yn8 h2 hlr (P.inj k ((l+r)/2) hk (Yn4 hk h2 hlr zzD zzE) q) zzD zzE,?_⟩
   cases hc:c (p.getD k 0) (p.getD ((l+r)/2) 0) with
   |true=>
    refine ih l ((l+r)/2) (Yn7 hlr zzD zzE) (Yn6 h2 hlr zzD zzE) (Yn5 h3 zzD zzE) h4 λi hi hik=>?_
    rcases Nat.eq_or_lt_of_le hi with q |q
    ·exact rwR q hc
    ·exact O.tr _ _ _ hc (hs _ i q hik)
   |false=>
    have h6:=other O P hk (Yn4 hk h2 hlr zzD zzE) (Yn3 h2 hlr zzD zzE) hc
    refine ih ((l+r)/2+1) r (Yn2 hlr zzD zzE) h2 (Yn1 h3 zzD zzE) (λi hi=>?_) h5
    rcases Nat.eq_or_lt_of_le (Nat.le_of_lt_succ hi) with q |q
    ·exact rwL q h6
    ·exact O.tr _ _ _ (hs i _ q (Yn0 h2 hlr zzD zzE)) h6
theorem aDi(hk:k<p.size)(hl:l<=k):gt (bubble p k (k-l)) i=if i=l then gt p k else if l<i/\i<=k then gt p (i-1) else gt p i:=by
 have h:=getElem?_bubble hk (k-l) A103 i
 rw[(A104 hl)]at h
 split
 ·rename_i q;rw[aw q]at h;exact uE h
 ·rename_i q
  rw[aq q]at h
  split
  ·rename_i q2;rw[aw q2]at h;exact uE h
  ·rename_i q2;rw[aq q2]at h;exact uE h
theorem aE6(O:Ord n c):∀ (f:Nat){p:kq Nat} (k:Nat),Pm n p->Sd c p k->k+f=n->PW n c (kas_bin f p k) (λq=>Pm n q/\Sd c q n):=λzz=>by
 induction zz with
 |zero=>
  intro p k P hs he
  obtain rfl:k=n:=A105 he
  exact⟨P,hs⟩
 |succ f ih=>
  intro p k P hs he
  refine PW.bind ((m9 O P (A106 he) hs k 0 k (gw _) (ce _) A107 (λi hi=>ba hi (Nat.not_lt_zero _)) (λi h1 h2=>ba h1 (A108 h2))).mono λl z=>xAA z λa b d=>?_)
  have hks:k<p.size:=by exact rwL P.sz (A106 he)
  refine ih (k+1) ⟨(bubble_perm _ _ _).trans P.pm⟩ (λi j hij hj=>?_) (A109 he)
  ·rw[aDi hks a,aDi hks a]
   by_cases h1:i=l
   ·rw[aw h1,aq (A110 hij h1),aw (A111 hij hj h1)]
    exact d _ (A112 hij h1) (A113 hij hj)
   ·rw[aq h1]
    by_cases h2:l<i/\i<=k
    ·rw[aw h2,aq (A114 hij h2),aw (A115 hij hj h2)]
     exact hs _ _ (A116 hij h2) (A117 hj h2)
    ·rw[aq h2]
     by_cases h3:j=l
     ·rw[aw h3];exact b _ (A118 hij h3)
     ·rw[aq h3]
      by_cases h4:l<j/\j<=k
      ·exact rwL (aw h4) (hs _ _ (A120 h4 (A119 hij h1 h2 h4)) (A121 h4))
      ·exact rwL (aq h4) (hs _ _ hij (A122 a hj h3 h4))
theorem aFv(O:Ord n c)(hn:1<=n):PW n c (kas_sort n) (λp=>Pm n p/\Sd c p n):=by
 delta kas_sort
 refine PW.bind ((aEq O ⟨Array.Perm.refl _⟩ hn).mono λr z=>xAAA z λa b d e=>?_)
 split
 ·rename_i h
  exact rwL (A123 b) (aE6 O _ r.1 a e (A124 h))
 ·rename_i h
  exact⟨a,(rwR (A125 d h) e)⟩
def wR{α:Type}(key:α->Int)(l:ac α):Prop:=l.Pairwise λa b=>key a<key b
theorem kS:∀ {a b:ac α},a.Perm b->wR key a->wR key b->a=b:=λ{n}=>by
 induction n with
 |nil=>
  intro _ p _ _
  exact p.nil_eq
 |cons x r ih=>
  intro b p ha hb
  cases b with
  |nil=>exact ba p.length_eq (by simp)
  |cons y t=>
   have e:x=y:=by
    rcases ez.mp (p.mem_iff.mp (.head _)) with h |h
    ·exact h
    ·rcases ez.mp (p.mem_iff.mpr (.head _)) with h' |h'
     ·exact h'.symm
     ·exact(A126 ((fp.mp ha).1 y h') ((fp.mp hb).1 x h)).elim
   subst e
   rw[ih (List.Perm.cons_inv p) (fp.mp ha).2 (fp.mp hb).2]
def ins{α:Type}(key:α->Int)(x:α)(l:ac α):ac α:=l.rec [x] λy r ih=>if key x<key y then x::y::r else y::ih
theorem ins_c:ins key x (y::r)=if key x<key y then x::y::r else y::ins key x r:=rfl
def isort(key:α->Int)(l:ac α):ac α:=l.rec [] λx _ ih=>ins key x ih
theorem uD(key:α->Int)(x:α)(l:ac α):(ins key x l).Perm (x::l):=by
 induction l with
 |nil=>exact .refl _
 |cons y r ih=>
  rw[ins_c]
  by_cases c:key x<key y
  ·rw[aw c]
  ·rw[aq c];exact(ih.cons y).trans (.swap x y r)
theorem cQ(key:α->Int)(l:ac α):(isort key l).Perm l:=by
 induction l with
 |nil=>exact .refl _
 |cons x r ih=>exact(uD key x _).trans (ih.cons x)
theorem ins_sd:∀ {l:ac α},wR key l->(∀ y∈l,key y≠key x)->wR key (ins key x l):=λ{l}=>by
 induction l with
 |nil=>exact λ_ _=>List.pairwise_singleton _ _
 |cons y r ih=>
  intro h hn
  rw[ins_c]
  have h1:=fp.mp h
  by_cases hlt:key x<key y
  ·refine rwL (aw hlt) (fp.mpr ⟨λz hz=>?_,h⟩)
   rcases ez.mp hz with rfl |hz
   ·exact hlt
   ·exact A52 hlt (h1.1 z hz)
  ·refine rwL (aq hlt) (fp.mpr ⟨λz hz=>?_,ih h1.2 λz hz=>hn z (.tail _ hz)⟩)
   rcases ez.mp ((uD key x r).mem_iff.mp hz) with rfl |hz
   ·exact A127 hlt (hn y (.head _))
   ·exact h1.1 z hz
theorem nH:∀ {l:ac α},l.Pairwise (λa b=>key a≠key b)->wR key (isort key l):=λ{l}=>by
 induction l with
 |nil=>exact λ_=>.nil
 |cons x r ih=>
  intro h
  have h1:=fp.mp h
  exact ins_sd (ih h1.2) λy hy=>(h1.1 y ((cQ key r).mem_iff.mp hy)).symm
theorem out_eq(d:α)(key:α->Int)(hd:vs.Pairwise λa b=>key a≠key b)(P:Pm vs.length p)(hs:Sd (λa b=>decide (key (vs.getD a d)<key (vs.getD b d))) p vs.length):p.toList.map (λi=>vs.getD i d)=isort key vs:=by
 refine kS ?_ ?_ (nH hd)
 ·have h1:=by simpa using P.pm.toList
  have h2:(List.range vs.length).map (λi=>vs.getD i d)=vs:=by
   refine List.ext_getElem (by simp) λi h1 h2=>?_
   simp at h1
   simp [h1]
  exact (h2▸(h1.map (λi=>vs.getD i d))).trans (cQ key vs).symm
 ·delta wR
  rw[List.pairwise_map,List.pairwise_iff_getElem]
  intro i j hi hj hij
  simp only[Array.length_toList]at hi hj
  have:=hs i j hij (A118 hj P.sz)
  have e1:gt p i=p[i]:=by delta gt;simp [Array.getD,hi]
  have e2:gt p j=p[j]:=by delta gt;simp [Array.getD,hj]
  rw[e1,e2]at this
  simpa using this
theorem aAy:ou "tuple.__lt__" =aa .slot:=by decide+kernel
theorem zB:splitId "tuple.__lt__" =aa ("tuple","__lt__"):=by decide+kernel
theorem zC:xh "tuple.__lt__" =ag:=by decide+kernel
theorem aAz(a b:au):po "tuple.__lt__" ⟨[a,b],[]⟩:=by delta po;kernel_rfl
theorem zD:pd qj "tuple.__lt__" =aa Builtin.«tuple.__lt__»:=lh ⋯
theorem aAx:Slot "tuple" "__lt__" "tuple.__lt__" :=.of (owner:="tuple") (n:="__lt__") (by rw[dt,bp];kernel_rfl) (by decide+kernel) (by decide+kernel) (by decide+kernel)
  (by first |exact .inl (by decide+kernel) |exact .inr (by decide+kernel)) (by rw[ir];kernel_rfl)
theorem lt_mat{K:sy}(hK:KMx C K)(hu:A.units<cLine)(X:K.In s.heap)(hx:s.heap.get? x=aa (rF (.int i t) x2 x3 n dd))(hy:s.heap.get? y=aa (rF (.int j u) y2 y3 m de))(hij:i≠j)(h:Q (decide (i<j)) s):ar C.M A (keyLt' oneType' (.ref x) (.ref y)) Q E s:=by
 have tx:mq C.M s.heap (qw (.ref x)) (.ref aF):=(Looks.ld hx).andThen .now
 have ty:mq C.M s.heap (qw (.ref y)) (.ref aF):=(Looks.ld hy).andThen .now
 have L1:=kj (M:=C.M) X hK.lt
 have isX:mq C.M s.heap (ud (.ref x) (.type "tuple")) ag:=tx.andThen (vd X hK.tup)
 have isY:mq C.M s.heap (ud (.ref y) (.type "tuple")) ag:=ty.andThen (vd X hK.tup)
 have bI:=Looks.of_pure (M:=C.M) (h:=s.heap) (aAx.bind (.ref x))
 rw[keyLt'_oneType,oneLt'_eq]
 refine zzB (wpAny_cRoomFor hu ?_)
 have fin:ar C.M A (call (.builtin "tuple.__lt__") [.ref x,.ref y]) (λv s'=>v= .bool (decide (i<j))/\s'=s) E s:=by
  refine jc (jh zC zD (uc aAy zB isX (aAz _ _) ?_))
  show ar _ _ (do
   if !(<-ud (.ref y) (.type "tuple")) then return<-ret .notImplemented
   let xs<-Builtin.Tuple.tupleItemsOf (.ref x)
   let ys<-Builtin.Tuple.tupleItemsOf (.ref y)
   for (x,y) in xs.toList.zip ys.toList do
    if !(<-eqBool x y) then
     rule "tuple.compare.by-the-first-pair-that-differs";return<-ret (<-richCompare .Lt x y)
   ret (Builtin.Tuple.tupleCompareSizes .Lt xs.size ys.size)) _ _ s
  refine zzB (isY.here (rwL (aq (by decide)) (zzB (zzB (iq hx rfl (zzP (zzB (zzB (iq hy rfl (zzP (?_:ar _ _ (forIn [(Value.int i t,Value.int j u),(x2,y2),(x3,y3)] _ _ >>=_) _ _ s)))))))))))
  rw[lx]
  exact zzB (zzB (zzB (wpAny_eqBool_int (rwL (aw (by simpa using hij)) (zzB (pp (zzB (lt_int (zzB (zzP (zzP (zzP (zzP ⟨rfl,rfl⟩)))))))))))))
 refine zzB ?_
 delta callSpecialIfBound? bindSpecialIfBound?;refine ax (zzB (zzB (zzB (tx.here (L1.here (zzB (wpAny_askSetting (ifb bI (zzB (dv fin ?_ λ_ _ z=>z))))))))))
 rintro v s' ⟨rfl,rfl⟩
 exact zzP (wpAny_truthy_bool h)
def fF:V->Int | .mat i _ _=>i |_=>0
def xX:V->dj | .mat _ _ _=>ag |_=>af
def okSort(vs:ac V):Prop:=(∀ v∈vs,xX v=ag)/\(vs.Pairwise λa b=>fF a≠fF b)/\vs.length<64
theorem VRs.map_getD(rs:VRs ρ h us vs):∀ idx:ac Nat,(∀ i∈idx,i<us.length)->VRs ρ h (idx.map λi=>us.getD i Value.none) (idx.map λi=>vs.getD i V.none):=λn=>by
 induction n with
 |nil=>
  exact λ_=>.nil
 |cons i idx ih=>
  intro hi
  have hlt':i<vs.length:=by exact rwR rs.length (hi i (.head _))
  refine xEA (rs.get (az hlt')) λu hu ru=>?_
  refine .cons ?_ (ih λj hj=>hi j (.tail _ hj))
  have e1:us.getD i Value.none=u:=by rw[dq,hu];rfl
  have e2:vs.getD i V.none=vs[i]:=by rw[dq,az hlt'];rfl
  exact(rwL e1 (rwL e2 ru):VR ρ h (us.getD i Value.none) (vs.getD i V.none))
theorem uB:∀ {vs:ac α},vs.length<2->isort kf vs=vs
 | [],_=>rfl
 | [v],_=>rfl
 |_::_::t,h=>ba h (Nat.not_lt.mpr (nh 2 t.length))
theorem aAl(xs:kq au):(arrOf (SortSt.mk' general' (xs.zip xs) #[] 7 none)).map (·.2)=xs:=by
 apply Array.toList_inj.mp
 exact rwL Array.toList_map (rwL Array.toList_zip (List.map_snd_zip (ce _)))
inductive MatQ(h:lu):au->Int->Prop
 |mk {a:bz}{i:Int}{t:Tok}{x2 x3:au}{n:Nat}{dd:ae bz} (g:h.get? a=aa (rF (.int i t) x2 x3 n dd)):MatQ h (.ref a) i
theorem mat_q(r:VR ρ h u v)(hm:xX v=ag):MatQ h u (fF v):=by
 cases v with
 |mat i j k=>
  obtain⟨a,n,t,u',w,dd,rfl,g⟩:=r.inv
  exact .mk g
 |_=>exact ba hm Bool.false_ne_true
theorem vZ(rs:VRs ρ h us vs)(hm:∀ v∈vs,xX v=ag)(hq:q<vs.length):MatQ h (us.getD q Value.none) (fF (vs.getD q V.none)):=by
 refine xEA (rs.get (az hq)) λu hu ru=>?_
 exact rwL dq (rwL hu (rwL dq (rwL (az hq) (mat_q ru (hm vs[q] (List.getElem_mem hq))))))
theorem zS(m:MatQ h u k):mq C.M h (qw u) (.ref aF):=by
 cases m with
 |mk g=>exact(Looks.ld g).andThen .now
theorem aGn(rs:VRs ρ h us vs)(hm:∀ v∈vs,xX v=ag):∀ u∈us,mq C.M h (qw u) (.ref aF):=λu hu=>by
 refine xE (oh hu) λq hq=>?_
 have m:=vZ rs hm (rs.length▸(List.getElem?_eq_some_iff.mp hq).1:q<vs.length)
 rw[dq,hq]at m
 exact zS m
theorem ord_f{f:Nat->Int}(key:∀ a b,a<b->b<n->f a≠f b):Ord n (λa b=>decide (f a<f b)) where
 tr:=λx y z h1 h2=>ao (Int.lt_trans (cx h1) (cx h2))
 tot:=λx y hx hy hne=>(Nat.lt_or_gt_of_ne hne).elim (λq=>(Int.lt_or_gt_of_ne (key x y q hy)).imp ao ao) λq=>(Int.lt_or_gt_of_ne (key y x q hx)).symm.imp ao ao
 asy:=λx y h=>bc (mo.mpr (oe (cx h)))
theorem aF9{vs:ac V}(hd:vs.Pairwise λa b=>fF a≠fF b):Ord vs.length (λa b=>decide (fF (vs.getD a V.none)<fF (vs.getD b V.none))):=ord_f λa b hab hb=>by
  exact rwL dq (rwL dq (rwL (az hb) (rwL (az (A53 hab hb)) (List.pairwise_iff_getElem.mp hd a b (A53 hab hb) hb hab))))
theorem aBc(S:Sim C H ρ s)(hl:ρ[i]? =aa l)(hH:H[i]? =aa (.list vs))(h64:vs.length<64)(kd:∀ {h3:lu}{us:ac au}{Q:SortKind->ak->Prop},2<=us.length->(∀ b o,C.base.heap.get? b=aa o->h3.get? b=aa o)->VRs ρ h3 us vs->Q κ {s with heap:=h3}->ar C.M A (keyKind' us.toArray) Q NoE {s with heap:=h3})(cmp:∀ {h3:lu}{us:ac au}{Q:dj->ak->Prop}{p q:Nat},(∀ b o,C.base.heap.get? b=aa o->h3.get? b=aa o)->VRs ρ h3 us vs->p<vs.length->q<vs.length->p≠q->Q (lt p q) {s with heap:=h3}->ar C.M A (keyLt' κ (us.getD p Value.none) (us.getD q Value.none)) Q NoE {s with heap:=h3})(O:Ord vs.length lt)(sh:vs.length<2->ws=vs)(wl:ws.length=vs.length)(out:∀ p,Pm vs.length p->Sd lt p vs.length->(p.toList.map λi=>vs.getD i V.none)=ws)(h:∀ s',Sim C (H.set i (.list ws)) ρ s'->Nx ρ W s ρ s'->P (.done (.ret .none)) s'):ar C.M A (Builtin.«list.sort» ⟨[.ref l.a],[]⟩) P NoE s:=by
 have hilt:=(List.getElem?_eq_some_iff.mp hH).1
 refine jU (S.objs i _ l hH hl) λg1 g2 xs n hx rs=>?_
 have hlen:=rs.length
 have stA:=mA.put (k:=s.toks) S ⟨hl,g1,g2,hH,hx,rs⟩ (λ_=> #[]) (vs':=[]) .nil
 rw[list_sort_plain]
 have ho:=hx
 refine zzB (listItems_at ho rfl (zzB (sx ho rfl ?_ (by exact rwL dh (A48 hlen h64)) (gw _))))
 obtain⟨e1,ho1⟩:∃ e1,(s.heap.update l.a (Obj.mapSeq λ_=>(#[]:kq au))).get? l.a=aa (wb "list" #[] e1):=⟨_,qp ho λ_=> #[]⟩
 refine zzB (wz ho1 rfl (zzB (wpAny_newTuple (zzB (wpAny_newList (ax ?_) (gw _))) (by rw[dh];simp;exact A48 hlen h64))))
 let h3:lu:=((s.heap.update l.a (Obj.mapSeq λ_=>(#[]:kq au))).push (wb "tuple" xs.toList.toArray 0)).push (wb "list" #[] 0)
 have kp:∀ b o,(s.heap.update l.a (Obj.mapSeq λ_=>(#[]:kq au))).get? b=aa o->h3.get? b=aa o:=λb o e=>Heap.get?_push_of_some _ (Heap.get?_push_of_some _ e)
 have S3:Sim C (H.set i (.list [])) ρ {s with heap:=h3}:=stA.1.extS kp
 have N3:Nx ρ W s ρ {s with heap:=h3}:=(stA.2 W).trans (.ext kp)
 have ho3:=kp _ _ ho1
 refine(?_:ar C.M A _ P NoE {s with heap:=h3})
 dsimp only
 have rs3:=rs.mono (be _) N3.imm
 have fin:∀ (out:kq au),VRs ρ h3 out.toList ws->out.size<=wi/\P (.done (.ret .none)) {s with heap:=h3.update l.a (Obj.mapSeq λ_=>out)}:=by
  refine λout ro=>(jU (S3.objs i _ l (bn hilt) hl) λk1 k2 xs3 n3 hx3 rs3'=>?_)
  have st:=mA.put (k:=s.toks) S3 ⟨hl,k1,k2,(bn hilt),hx3,rs3'⟩ (λ_=>out) ro
  refine⟨by rw[dh];exact A49 h64 ro.length wl,h _ ?_ (N3.trans (st.2 W))⟩
  have:=st.1
  rw[ms]at this
  exact this
 by_cases h2:xs.size<2
 ·rw[aw h2,aw h2]
  refine zzB (zzP ?_)
  rw[StateT.run_pure]
  refine zzB (zzP ?_)
  dsimp only
  refine xA (fin xs (by exact rwL (sh (hlen▸h2)) rs3)) λf1 f2=>zzB (wz ho3 rfl ?_)
  rw[aAl]
  refine zzB (sx ho3 rfl ?_ (gw _) (je f1))
  simp only[su,jd,jw]
  exact zzP f2
 ·rw[aq h2,aq h2]
  have hv2:2<=xs.toList.length:=by simp;exact A51 h2
  refine rwL (by simp:xs=xs.toList.toArray) (zzB (kd hv2 S3.keep rs3 ?_))
  have est:SortSt.mk' κ (xs.toList.toArray.zip xs.toList.toArray) #[] 7 none=kas_st κ (vj xs.toList) (List.toArray (List.range xs.toList.length)):=by
   have e:=kas_range (vj xs.toList)
   rw[pairsOf_size]at e
   show SortSt.mk' κ (vj xs.toList) #[] 7 none=SortSt.mk' κ ((List.toArray (List.range xs.toList.length)).map (kas_item (vj xs.toList))) #[] 7 none
   rw[e]
  have hvl:xs.toList.length=vs.length:=by simp [hlen]
  have ask:(kas_sort xs.toList.length).kasWp (kas_cmp C.prog C.w A κ (vj xs.toList)) (λp s'=>(Pm vs.length p/\Sd lt p vs.length)/\s'= {s with heap:=h3}) {s with heap:=h3}:=by
   rw[hvl,<-kas_ask_eq]
   exact PW.wp (I:=λs'=>s'= {s with heap:=h3}) (λi j D s' hi hj hij hs' hD=>(rwL hs' (cmp S3.keep rs3 hi hj hij (hD _ rfl)))) (λp s' hp hs'=>⟨hp,hs'⟩) (aFv O (A57 hv2 hvl)) _ rfl
  have run:=kas_runs (E:=NoE) (Q:=λ_ st' s'=>∃ p:kq Nat,p.size=xs.toList.length/\arrOf st'=p.map (kas_item (vj xs.toList))/\failedOf st'=none/\(Pm vs.length p/\Sd lt p vs.length)/\s'= {s with heap:=h3})
   hv2 (by exact rwL hvl h64) (λp' st' s' a1 a2 a3 a4=>⟨p',a1,a2,a3,a4⟩) ask
  refine zzB (dv (rwL est run) ?_ λ_ _ e=>e)
  rintro ⟨⟨⟩,st'⟩ s' ⟨p,hp,har,hf,⟨hP,hS⟩,rfl⟩
  have hout:(arrOf st').map (·.2)=List.toArray (p.toList.map λi=>xs.toList.getD i Value.none):=by
   apply Array.toList_inj.mp
   rw[har,Array.map_map,Array.toList_map]
   exact List.map_congr_left λi _=>by show(kas_item (vj xs.toList) i).2=_;rw[kas_item_eq]
  have hlt:∀ i∈p.toList,i<xs.toList.length:=λi hi=>by
   rw[hvl];simpa using ((by simpa using hP.pm.toList:p.toList.Perm (List.range vs.length)).mem_iff.mp hi)
  refine xA (fin (List.toArray (p.toList.map λi=>xs.toList.getD i Value.none)) (by
   have:=rs3.map_getD p.toList hlt
   rw[out p hP hS]at this
   simpa using this)) λf1 f2=>?_
  refine zzB (wz ho3 rfl (rwL hout (zzB (sx ho3 rfl ?_ (gw _) (je f1)))))
  rw[hf]
  simp only[su,jd,jw]
  exact zzP f2
theorem zH{K:sy}(hK:KMx C K)(hu:A.units<cLine)(S:Sim C H ρ s)(hl:ρ[i]? =aa l)(hH:H[i]? =aa (.list vs))(hok:okSort vs)(h:∀ s',Sim C (H.set i (.list (isort fF vs))) ρ s'->Nx ρ W s ρ s'->P (.done (.ret .none)) s'):ar C.M A (Builtin.«list.sort» ⟨[.ref l.a],[]⟩) P NoE s:=xAA hok λhm hd h64=>have O:=aF9 hd
 aBc (κ:=oneType') S hl hH h64 (λhv2 _ rs q=>kas_kind hv2 (aGn rs hm) (by decide) (by decide) q)
  (λ{h3 us Q p q} kp rs hi hj hij hD=>by
   have hne:fF (vs.getD p V.none)≠fF (vs.getD q V.none):=λe=>(O.tot p q hi hj hij).elim (λz=>ba e (Int.ne_of_lt (cx z))) λz=>ba e.symm (Int.ne_of_lt (cx z))
   have MA:=vZ rs hm hi
   have MB:=vZ rs hm hj
   revert MA MB hne hD
   generalize us.getD p Value.none=ua
   generalize us.getD q Value.none=ub
   generalize fF (vs.getD p V.none)=ka
   generalize fF (vs.getD q V.none)=kb
   intro hD hne MA MB
   cases MA with
   |mk ha=>cases MB with
    |mk hb=>exact lt_mat hK hu (hK.toK.mem.keeps kp) ha hb hne hD) O uB (cQ fF vs).length_eq (λp hP hS=>out_eq V.none fF hd hP hS) h
def aEf(f:EF):EF:=λlo H Q=>f lo H λa H1=>Lf a.rf λi=>Lf (H1[i]?.bind MO.own) λvs=>okSort vs/\Q .none (H1.set i (.list (isort fF vs)))
theorem EV.sort{K:sy}(hK:KMx C K)(ho:EV C (r+1) env o f)(sh:eZ env o "sort" apos pos []):EV C (r+1) env (.Call (.Attribute o "sort" apos) [] [] pos) (aEf f):=λA s ρ H lo Q hr S F q=>mK ho sh PySem.F.slot_list_sort PySem.F.type_list_sort hr S F q (λv H1 q=>q.elim λi hi q=>q.elim λvs hv _=>⟨i,vs,hi,k8 hv⟩) λ{s1 ρ1 l i vs xs n H1} S1 N1 O q=>by
  refine q.elim λi' hi q=>cyS hi λzq=>?_;subst zq
  refine q.elim λws hw q=>?_
  obtain rfl:=O.same hw
  refine ot rfl cB (wmN (kO EVs.nil ⟨.inl rfl,λ_=>rfl⟩ hr S1 (F.nx N1) (Q:=λvs H'=>vs= []/\H'=H1) ⟨rfl,rfl⟩) λa s2 p=>?_)
  obtain⟨ps,kw⟩:=a
  obtain⟨hkw,S2,N2,rs,e1,e2⟩:=p
  subst hkw
  subst e1 e2
  cases rs
  exact⟨S2.keep,xEE (k9 S2 (aQ N2.pre O.g) O.h) λxs n O2=>eo PyProof.Rows.slot_list_sort ⟨_,O2.x,rfl⟩ PyProof.Rows.entry_list_sort (zH hK (A59 hr.2.2:A.units+1<9900) S2 O2.g O.h q.1 λs3 S3 N3=>⟨.none,rfl,S3,(N1.trans N2).trans N3,.none,q.2⟩) (PyProof.Rows.args_list_sort _)⟩
theorem SV.doc(hi:qh env=af)(hs:qs (.Constant (.str x) k p) none pos.line env=pure af):SV C r env (.Expr (.Constant (.str x) k p) pos) (sK .next):=SV.expr EV.str hi hs
theorem OpR.iadd:OpR C r (inplaceOp .Add) q8:=OpR.i2 λ_ _ k=>PySem.AutoIntOps.iadd_0 (k _ _ (.int _ _))
theorem Room.le{a b:Nat}(h:ble a b=ag)(hr:Room b A):Room a A:=by
 have:=ip h
 exact xAA hr λh1 h2 h3=>⟨h1,A60 this h2,A61 this h3⟩
theorem CV.lift{a b:Nat}(h:CV C a f g)(q:ble a b=ag):CV C b f g:=⟨h.keep,λhr S rs e=>h.call (hr.le q) S rs e⟩
noncomputable abbrev AnyT:=∀ {α:Type} (as:kq α),(α->dj)->optParam Nat 0->optParam Nat as.size->dj
def anyL:AnyT:=λ{α} as p i j=>match beq i 0,beq j as.size with
 |true,ag=>as.toList.any p
 |_,_=>as.any p i j
theorem aHj: @Eq AnyT @Array.any.{0} @anyL:=by
 funext α as p i j
 delta anyL
 cases h1:beq i 0 with
 |false=>rfl
 |true=>cases h2:beq j as.size with
  |false=>rfl
  |true=>
   cases Nat.eq_of_beq_eq_true h1
   cases Nat.eq_of_beq_eq_true h2
   exact Array.any_toList.symm
theorem holdT{P:Prop}(_:P):vx:=trivial
set_option maxHeartbeats 1000000 in
@[irreducible] noncomputable def tnG: {G:AnyT->xi // PySem.W.Fast.tw4202317264376624991=G @Array.any.{0}}:=let G:AnyT->xi:=_
 let u:vx:=holdT (P:=PySem.W.Fast.tw4202317264376624991=G @Array.any.{0}) (by
  delta PySem.W.Fast.tw4202317264376624991
  generalize @Array.any.{0}=A
  exact rfl)
 ⟨G,@Eq.refl xi PySem.W.Fast.tw4202317264376624991⟩
open PySem.Sem (wp)
noncomputable abbrev Ev(α:Type):=Pos->BT->Nat->Nat->ae (Except au α×Pos×BT×Nat×Nat)
noncomputable abbrev Cf:=Ctx->Pos->BT->Nat->Nat->ae (qk×BT×Nat×Nat)
def evS(cf:Cf)(S:Setting)(Γ:Ctx)(t:Sem α):Ev α:=@Sem.rec α (λ_=>Ev α)
  (λa p T n k=>aa (.ok a,p,T,n,k))
  (λe p T n k=>aa (.error e,p,T,n,k))
  (λ_ _ _ _ _=>none)
  (λ_ _ _ _ _=>none)
  (λ_ _ ih p T n k=>ih () p T n k)
  (λq _ ih _ T n k=>ih () q T n k)
  (λa _ _ ih p T n k=>bif blt a n then(T.get a).bind λo=>(alive o).bind λo'=>ih o' p T n k else none)
  (λa _ f _ ih p T n k=>bif blt a n then(T.get a).bind λo=>(alive o).bind λ_=>ih () p (T.set a f) n k else none)
  (λo _ ih p T n k=>bif ((T.ins n o).get n).isSome then ih n p (T.ins n o) (n+1) k else none)
  (λa _ ih p T n k=>bif blt a n then(T.get a).bind λo=>ih (alive o) p T n k else ih none p T n k)
  (λ_ _ ih p T n k=>ih () p T n k)
  (λ_ _ _ _ _ _ _=>none)
  (λ_ ih p T n k=>ih k p T n (k+1))
  (λ_ ih p T n k=>ih S p T n k)
  (λ_ _ _ _ _ _ _ _=>none)
  (λ_ _ _ _ _ _ _ _=>none)
  (λc h _ _ _ ih p T n k=>(cf (Γ.enter c h p) p T n k).bind λy=>ih y.1 p y.2.1 y.2.2.1 y.2.2.2)
  (λown _ ih p T n k=>ih (if own then Γ.own else Γ.handled) p T n k)
  (λ_ _ _ _ _ _ _=>none)
  (λ_ _ _ _ _ _ _=>none)
  (λ_ _ _ _ _ _ _ _ _=>none)
  (λ_ _ _ _ _ _ _ _ _=>none)
  (λ_ ih p T n k=>ih ((Γ.code,p)::Γ.below) p T n k)
  (λ_ _ _ _ _ _ _=>none)
  (λ_ ih p T n k=>ih 0 p T n k)
  (λ_ _ _ _ _ _ _ _ _ _=>none) t
section
variable(life:Life)(gens:kq qd)(drawn:Drawn)(os:ug)
def ab(T:BT)(n k:Nat):ak:=⟨uh T n life,gens,drawn,k,os⟩
end
def Ph(life:Life)(gens:kq qd)(drawn:Drawn)(os:ug){α:Type}(Q:α->Pos->ak->Prop)(E:au->Pos->ak->Prop):ae (Except au α×Pos×BT×Nat×Nat)->Prop
 |some (.ok a,p,T,n,k)=>Q a p (ab life gens drawn os T n k)
 |some (.error e,p,T,n,k)=>E e p (ab life gens drawn os T n k)
 |none=>fe
def PhC(life:Life)(gens:kq qd)(drawn:Drawn)(os:ug)(R:qk->ak->Prop):ae (qk×BT×Nat×Nat)->Prop
 |some (r,T,n,k)=>R r (ab life gens drawn os T n k)
 |none=>fe
theorem ob{β γ:Type}{P:ae γ->Prop}(h0: ¬P none){o:ae β}{f:β->ae γ}(h:P (o.bind f)):∃ y,o=aa y/\P (f y):=by
 cases o with
 |none=>exact ba h h0
 |some y=>exact⟨y,rfl,h⟩
theorem obb{γ:Type}{P:ae γ->Prop}(h0: ¬P none){b:dj}{x:ae γ}(h:P (bif b then x else none)):b=ag/\P x:=by
 cases b with
 |false=>exact ba h h0
 |true=>exact⟨rfl,h⟩
theorem aD8(M:xw)(life:Life)(gens:kq qd)(drawn:Drawn)(os:ug)(hcf:∀ {Γ p T n k R},PhC life gens drawn os R (cf Γ p T n k)->wpCode M Γ R p (ab life gens drawn os T n k))(t:Sem α):∀ {Q:α->Pos->ak->Prop}{E:au->Pos->ak->Prop}{p T n k},Ph life gens drawn os Q E (evS cf ⟨M.prog,M.w.params⟩ Γ t p T n k)->wp M Γ t Q E p (ab life gens drawn os T n k):=by
 induction t with
 |pure a=>intro Q E p T n k h;exact h
 |raise e=>intro Q E p T n k h;exact h
 |unsupported |finish |register |choose |os |genState |newGen |resume | «yield» |fork |await=>intro Q E p T n k h;exact h.elim
 |rule _ k ih=>intro Q E p T n k h;exact ih () h
 | «at» q k ih=>intro Q E p T n k h;exact ih () h
 |point _ k ih=>intro Q E p T n k h;exact ih () h
 |ask k ih=>intro Q E p T n k h;exact ih _ h
 |thread k ih=>intro Q E p T n k h;exact ih _ h
 |stack k ih=>intro Q E p T n k h;exact ih _ h
 |handled own k ih=>intro Q E p T n k h;exact ih _ h
 |fresh k ih=>intro Q E p T n k h;exact ih _ h
 |load a part k ih=>
  intro Q E p T n j h
  exact xA (obb id h) λhb h=>xEA (ob id h) λo hg h=>xEA (ob id h) λo' ho h=>⟨o',(abs_get (ip hb) hg).trans ho,ih o' h⟩
 |update a part f k ih=>
  intro Q E p T n j h
  exact xA (obb id h) λhb h=>xEA (ob id h) λo hg h=>xEA (ob id h) λo' ho h=>⟨by show((uh T n life).get? a).isSome=ag;rw[abs_get (ip hb) hg,ho];rfl,(rwR (absHeap_set hg) (ih () h))⟩
 |alloc o k ih=>
  intro Q E p T n j h
  refine xA (obb id h) λhb h=>?_
  show wp M Γ (k (uh T n life).objs.size) _ _ p {ab life gens drawn os T n j with heap:=(uh T n life).push o}
  rw[absHeap_size,<-absHeap_ins hb]
  exact (ih n h)
 |loadIfAlive a k ih=>
  intro Q E p T n j h
  show wp M Γ (k ((uh T n life).get? a)) _ _ p _
  revert h
  refine(?_:Ph life gens drawn os Q E (bif blt a n then _ else _)->_)
  cases hb:blt a n with
  |false=>
   exact λh=>(rwL (abs_get_none (λq=>by cases ((show blt a n=ag from Nat.ble_eq_true_of_le q)▸hb))) (ih _ h))
  |true=>
   exact λh=>(xEA (ob id h) λo hg h=>rwL (abs_get (ip hb) hg) (ih _ h))
 |call c hd g l k ih=>
  intro Q E p T n j h
  exact hcf (xEA (ob id h) λy hc h=>rwL hc (ih _ h))
def evC(den:Code->Sem Fin)(S:Setting)(f:Nat):Cf:=@Nat.rec (λ_=>Cf) (λ_ _ _ _ _=>none) (λ_ rec Γ p T n k=>match evS rec S Γ (den Γ.code) p T n k with
  |some (.ok (.done fl),_,T',n',k')=>aa ((Except.ok fl:qk),T',n',k')
  |some (.ok (.again c),p',T',n',k')=>bif c.quiet then rec (Γ.goto c) p' T' n' k' else none
  |some (.error e,_,T',n',k')=>aa ((Except.error e:qk),T',n',k')
  |none=>none) f
theorem wD(M:xw)(life:Life)(gens:kq qd)(drawn:Drawn)(os:ug):∀ (f:Nat){Γ R p T n k},PhC life gens drawn os R (evC M.den ⟨M.prog,M.w.params⟩ f Γ p T n k)->wpCode M Γ R p (ab life gens drawn os T n k):=λl=>by
 induction l with
 |zero=>
  intro _ _ _ _ _ _ h
  exact h.elim
 |succ f ih=>
  intro Γ R p T n k h
  rw[wpCode_iff_wp]
  refine aD8 M life gens drawn os (λhq=>ih hq) (M.den Γ.code) ?_
  revert h
  show PhC life gens drawn os R (match evS (evC M.den ⟨M.prog,M.w.params⟩ f) ⟨M.prog,M.w.params⟩ Γ (M.den Γ.code) p T n k with
   |some (.ok (.done fl),_,T',n',k')=>aa ((Except.ok fl:qk),T',n',k')
   |some (.ok (.again c),p',T',n',k')=>bif c.quiet then evC M.den ⟨M.prog,M.w.params⟩ f (Γ.goto c) p' T' n' k' else none
   |some (.error e,_,T',n',k')=>aa ((Except.error e:qk),T',n',k')
   |none=>none)->_
  cases evS (evC M.den ⟨M.prog,M.w.params⟩ f) ⟨M.prog,M.w.params⟩ Γ (M.den Γ.code) p T n k with
  |none=>exact False.elim
  |some y=>
   obtain⟨x,p₁,T₁,n₁,k₁⟩:=y
   cases x with
   |error e=>exact id
   |ok fin=>cases fin with
    |done fl=>exact id
    |again c=>
     intro h
     revert h
     exact λh=>(xA (obb id h) λhq h=>⟨hq,ih h⟩)
def setDoc(D:Str):jb->jb
 | .ClassDef n b k (.Expr (.Constant (.str _) x q) q'::rest) d t s ts bi st p=>.ClassDef n b k (.Expr (.Constant (.str D) x q) q'::rest) d t s ts bi st p
 |x=>x
def setAt(D:Str):ac jb->ac jb
 |a::b::c::d::e::f::r=>a::b::c::d::e::setDoc D f::r
 |l=>l
def aFg(p:se)(D:Str):se:= {p with main:= {p.main with body:=setAt D p.main.body}}
def tn:xi:=tnG.1 @anyL
theorem tn_eq:Builtin.«type.__new__»=tn:=(PySem.W.Fast.te4202317264376624991).trans (tnG.2.trans (bg tnG.1 aHj))
def tbl(id:pj):ae xi:=match PySem.W.S.eqLit (PySem.code "type.__new__") id with
 |true=>aa tn
 |false=>PySem.W.Fast.tw14364793385576792824 id
theorem tbl_eq:qj=tbl:=by
 funext id
 delta tbl
 rw[<-(congrFun (PySem.W.S.eqLit_eq "type.__new__" _ rfl) id)]
 by_cases e:id="type.__new__"
 ·subst e
  rw[(nu _)]
  rw[<-tn_eq]
  rw[vv]
  kernel_rfl
 ·rw[(qq.mpr e)]
  rw[vv,PySem.W.Fast.te14364793385576792824]
def den:Code->Sem Fin:=PySem.W.Fast.tw11892475500146522536 tbl
theorem den_eq:wu qj=den:=by
 delta den
 rw[tbl_eq,PySem.W.Fast.te11892475500146522536]
def btOf(l:ac Obj):BT:=(l.zipIdx).foldl (λt x=>t.ins x.2 x.1) .nil
def bt0(P:bq):BT:=btOf [wk P,boot_o_1 P,xp P,boot_o_3 P,xq P,boot_o_5 P,boot_o_6 P,boot_o_7 P,boot_o_8 P,boot_o_9 P,boot_o_10 P]
def Γ0:Ctx:=⟨.builtin "claim.caller" {},none,none,[],none⟩
def wY(p:se)(w:jn):=evS (evC den ⟨p,w.params⟩ 3000) ⟨p,w.params⟩ Γ0 (pg p).cur default (bt0 w.params) 11 ow
def Jn(t:Thread):Step->Prop
 | .halt (.done _) _=>through t=ag
 |_=>vx
theorem Jn.ite{a b:Step}(ha:Jn t a)(hb:Jn t b):Jn t (if x=ag then a else b):=by
 cases x with
 |true=>exact ha
 |false=>exact hb
theorem Jn.itp{c:Prop}[Decidable c]{a b:Step}(ha:Jn t a)(hb:Jn t b):Jn t (if c then a else b):=by
 by_cases h:c
 ·rw[aw h];exact ha
 ·rw[aq h];exact hb
theorem stepJ{den:Code->Sem Fin}:Jn t (step den p w s t):=by
 obtain⟨heap,gens,drawn,toks,os⟩:=s
 obtain⟨cur,code,pos,stack⟩:=t
 cases cur with
 |pure a=>cases a with
  |again c=>trivial
  |done f=>cases stack with
   |nil=>exact Jn.ite trivial rfl
   |cons fr rest=>cases fr<;>trivial
 |raise e=>cases stack with
  |nil=>exact Jn.ite trivial trivial
  |cons fr rest=>cases fr<;>trivial
 |unsupported _=>trivial
 |finish e=>exact Jn.ite trivial trivial
 |rule _ k=>trivial
 | «at» p k=>trivial
 |load a _ k=>
  delta step;dsimp only
  cases heap.get? a<;>trivial
 |update a _ f k=>exact Jn.ite trivial trivial
 |alloc o k=>trivial
 |loadIfAlive a k=>trivial
 |point _ k=>trivial
 |register _ _=>trivial
 |fresh k=>trivial
 |ask k=>trivial
 |choose src n k=>exact Jn.itp trivial trivial
 |os q _ k=>trivial
 |call c h g l k=>trivial
 |handled own k=>trivial
 |newGen c k=>trivial
 |genState g k=>
  delta step;dsimp only
  cases gens[g]? <;>trivial
 |resume g r l k=>
  delta step;dsimp only
  cases gens[g]? with
  |none=>trivial
  |some x=>cases x with
   |fresh c=>cases r with
    |send v=>cases v<;>trivial
    |throw e=>trivial
   |_=>trivial
 |yield v g0 l kk=>
  delta step;dsimp only
  cases splitAtGen stack<;>trivial
 |stack k=>trivial
 |fork _ _=>trivial
 |thread k=>trivial
 |await _ _ _ _ _=>trivial
theorem rN{den:Code->Sem Fin}(n:Nat):∀ (s:ak) (t:Thread),runN den p w n s t= .halted (.done f) s'-> ∃ m t',runN den p w m s t= .running s' t'/\through t'=ag:=by
 induction n with
 |zero=>intro s t h;cases h
 |succ n ih=>
  intro s t h
  have hj:=stepJ (den:=den) (p:=p) (w:=w) (s:=s) (t:=t)
  have he:=step_halt_same den p w s s' t (.done f)
  replace h:(match step den p w s t with | .go s' t'=>runN den p w n s' t' | .halt o s'=>.halted o s')=Run.halted (.done f) s':=h
  have hm:∀ m,runN den p w (m+1) s t=(match step den p w s t with | .go s' t'=>runN den p w m s' t' | .halt o s'=>.halted o s'):=λm=>rfl
  revert h hj he hm
  cases step den p w s t with
  |go s₂ t₂=>
   exact λhj he h hm=>(iQ (ih s₂ t₂ h) λm t' h1 ht=>⟨m+1,t',(hm m).trans h1,ht⟩)
  |halt o s₂=>
   intro hj he h hm
   cases h
   exact⟨0,t,bg (Run.running · t) (he rfl).symm,hj⟩
theorem s8(hz:s.asleep)(hg:S₁.gens= #[])(h:Sem.wp (gz p w) Γ0 (pg p).cur (λfin _ s'=>fin= .done (.ret .none)/\s'=S₁) (λ_ _ _=>fe) default s):∃ n t,schedN (wu qj) p w n (.single s (pg p))= .running (.single S₁ t)/\through t=ag:=by
 have h':Sem.wp (gz p w) ⟨.builtin "claim.caller" {},none,none,[],none⟩ (pg p).cur
   (Sem.finPost (gz p w) ⟨.builtin "claim.caller" {},none,none,[],none⟩ λr s'=>(r= .ok (.ret .none)/\s'=S₁)/\leftWithCleanup s'.gens=af)
   (λe _ s'=>((.error e:qk)= .ok (.ret .none)/\s'=S₁)/\leftWithCleanup s'.gens=af) default s:=by
  refine Sem.wp_mono _ _ _ ?_ (λ_ _ _ x=>x.elim) _ _ h
  rintro fin q s' ⟨rfl,rfl⟩
  exact⟨⟨rfl,rfl⟩,by rw[hg];decide+kernel⟩
 obtain⟨n,r,s',hn,rfl,rfl⟩:=(wp_iff_halts _ _ _ _).mp h'
 refine cX (runNI_real (wu qj) p w hn (outcomeOf_ends _)) λs'' hr hf hc=>rwR (Shared.eq_of_forget_eq hf hg) (iQ (rN n s (pg p) hr) λm t' hm ht=>?_)
 have hne:∀ k s₂,runN (wu qj) p w k s (pg p)≠ .halted (.unsupported "lifetime:generator-with-cleanup-left-suspended") s₂:=by
  intro k s₂ hk
  have a:=runN_mono (wu qj) p w n k s (pg p) _ _ hr
  rw[Nat.add_comm,(runN_mono (wu qj) p w k n s (pg p) _ s₂ hk)]at a
  injection a with a1 _
  cases a1
 exact⟨m,t',(schedN_eq_runN (wu qj) p w s (pg p) hz ⟨hc,hne⟩ m).trans (bg Run.lift hm),ht⟩
def docS(p:se):Str:=match (p.main.body.drop 5).head? with
 |some (PySem.Stmt.ClassDef _ _ _ body _ _ _ _ _ _ _)=>(docOf body).getD ⟨#[]⟩
 |_=>⟨#[]⟩
noncomputable abbrev pw:se:=PySem.Challenge.pw_dm0053_01
def docL: {l:ac Char // docS pw=⟨(l.map Char.toNat).toArray⟩}:=⟨_,Fast.ofString_ofList _⟩
def docD:Str:=⟨(docL.1.map Char.toNat).toArray⟩
def pR:se:=aFg pw docD
theorem p_eq:pw=pR:=by
 unfold pR docD
 rw[<-docL.2]
 kernel_rfl
def stA(i:Nat):jb:=(pw.main.body.drop i).headD (.Pass ⟨0,0,0,0⟩)
def inCls:jb->ac jb
 | .ClassDef _ _ _ body _ _ _ _ _ _ _=>body
 |_=>[]
def stB(i j:Nat):jb:=((inCls (stA i)).drop j).headD (.Pass ⟨0,0,0,0⟩)
def fPar:jb->Arguments
 | .FunctionDef _ a _ _ _ _ _ _ _ _=>a
 |_=>⟨[],[],none,[],[],none,[]⟩
def cU:jb->ac jb
 | .FunctionDef _ _ b _ _ _ _ _ _ _=>b
 |_=>[]
def fSco:jb->tu
 | .FunctionDef _ _ _ _ _ _ s _ _ _=>s
 |_=>default
def uV(s:jb):Str:=(docOf (cU s)).getD ⟨#[]⟩
noncomputable abbrev kE(P:bq)(n:Str)(t:Nat)(v:au):wq:=⟨PyData.keyHash P n,.str n t,v⟩
def cOx(x y:Nat->au)(z:Nat)(n q:Str)(t l a f r e:Nat):Obj:=⟨.type "code",none,.fields #[.str n t,.str q (t+1),.str "/claim/cut.py" (t+2),.int l 0,.int a 0,.int 0 0,.int 0 0,.int f 0,.ref r,.bool ag,.int 181 0,.ref (r+1),.none,x r,y r,.ref (r+z),.int e 0,.int l 0,.str "/claim/cut.py" (e+1)],#[]⟩
def cO:Str->Str->Nat->Nat->Nat->Nat->Nat->Nat->Obj:=cOx (λr=>.ref (r+2)) (λr=>.ref (r+3)) 4
def cO0:Str->Str->Nat->Nat->Nat->Nat->Nat->Nat->Obj:=cOx (λ_=>.none) (λ_=>.none) 2
def fOx(m:au)(n q:Str)(s:jb)(d doc:au)(an:ae Nat)(c:Nat):Obj:=⟨.type "function",none,.func {name:=n,qualname:=q,params:=fPar s,body:=.stmts (cU s),scope:=fSco s,globals:=3,closure:=[],defaults:=d,kwdefaults:=.none,doc:=doc,pyModule:=m,annotations:=an,code:=.ref c,closureTuple:=.none,builtins:=0},#[]⟩
def fO:Str->Str->jb->au->au->ae Nat->Nat->Obj:=fOx (.str "cpy313.difflib" 194)
def o3(P:bq):Obj:=⟨(.type "dict"),none,(Data.dict #[kE P "__name__" 165 (.str "law_dm0053_01" 592),kE P "__doc__" 166 .none,kE P "__package__" 167 .none,kE P "__loader__" 168 (.builtin "__main__.__loader__#opaque"),kE P "__spec__" 169 .none,kE P "__annotations__" 170 (.ref 6),kE P "__builtins__" 171 (.ref 4),kE P "__file__" 173 (.str "/claim/cut.py" 172),kE P "__cached__" 174 .none,kE P "_wall" 193 (.ref 21),kE P "_tuplegetter" 252 (.ref 60),kE P "Match" 380 (.ref 135),kE P "_calculate_ratio" 388 (.ref 145),kE P "SequenceMatcher" 591 (.ref 242),kE P "_law_lists" 603 (.ref 253),kE P "_law_cut" 617 (.ref 260),kE P "_law_groups" 623 (.ref 265),kE P "_law_pulled" 637 (.ref 272),kE P "law" 643 (.ref 277)] 19),#[]⟩
def o81(P:bq):Obj:=cO "__new__" "Match.__new__" 274 29 4 3 76 281
def o82(P:bq):Obj:=fO "__new__" "Match.__new__" (stB 3 4) .none (.str "Create new instance of Match(a, b, size)" 283) none 81
def o88(P:bq):Obj:=cO "_make" "Match._make" 285 33 2 3 83 291
def o89(P:bq):Obj:=fO "_make" "Match._make" (stB 3 5) .none (.str "Make a new Match object from a sequence or iterable" 293) (aa 92) 88
def o91(P:bq):Obj:=⟨(.type "classmethod"),(aa 90),(Data.fields #[(.ref 89),(.bool af)]),#[]⟩
def o134(P:bq):Obj:=⟨(.type "dict"),none,(Data.dict #[kE P "__module__" 260 (.str "cpy313.difflib" 194),kE P "__firstlineno__" 264 (.int 23 263),kE P "__doc__" 266 (.str "Match(a, b, size)" 265),kE P "__slots__" 268 (.ref 73),kE P "_fields" 272 (.ref 74),kE P "_field_defaults" 273 (.ref 75),kE P "__new__" 284 (.ref 136),kE P "_make" 306 (.ref 91),kE P "_replace" 317 (.ref 100),kE P "__replace__" 318 (.ref 100),kE P "__repr__" 326 (.ref 107),kE P "_asdict" 333 (.ref 114),kE P "__getnewargs__" 341 (.ref 121),kE P "__match_args__" 345 (.ref 122),kE P "a" 355 (.ref 124),kE P "b" 365 (.ref 127),kE P "size" 375 (.ref 130),kE P "__static_attributes__" 376 (.ref 132)] 2),#[]⟩
def o135(P:bq):Obj:=⟨(.type "type"),none,(Data.cls {name:="Match",bases:=[(.type "tuple")],mro:=[(.ref 135),(.type "tuple"),(.type "object")],ns:=134,qualname:="Match",hasDict:=af,slotNames:=[],subclasses:=[],abstract:=af,collection:=none,hasDel:=af}),#[aa (.ref 65),none,aa (.str "Match" 253),aa (.str "Match" 261),aa .none,aa (.bool af)]⟩
def o136(P:bq):Obj:=⟨(.type "staticmethod"),none,(Data.fields #[(.ref 82)]),#[]⟩
def o153(P:bq):Obj:=⟨(.type "tuple"),none,(Data.seq #[.none,(.str "" 404),(.str "" 405),(.bool ag)] 0),#[]⟩
def o159(P:bq):Obj:=cO "__init__" "SequenceMatcher.__init__" 406 145 5 3 154 414
def zO(P:bq):Obj:=fO "__init__" "SequenceMatcher.__init__" (stB 5 1) (.ref 153) (.str (uV (stB 5 1)) 416) none 159
def o166(P:bq):Obj:=cO "set_seqs" "SequenceMatcher.set_seqs" 418 173 3 3 161 424
def o167(P:bq):Obj:=fO "set_seqs" "SequenceMatcher.set_seqs" (stB 5 2) .none (.str (uV (stB 5 2)) 426) none 166
def o173(P:bq):Obj:=cO "set_seq1" "SequenceMatcher.set_seq1" 428 184 2 3 168 433
def o174(P:bq):Obj:=fO "set_seq1" "SequenceMatcher.set_seq1" (stB 5 3) .none (.str (uV (stB 5 3)) 435) none 173
def o180(P:bq):Obj:=cO "set_seq2" "SequenceMatcher.set_seq2" 437 209 2 3 175 442
def o181(P:bq):Obj:=fO "set_seq2" "SequenceMatcher.set_seq2" (stB 5 4) .none (.str (uV (stB 5 4)) 444) none 180
def o187(P:bq):Obj:=cO "__chain_b" "SequenceMatcher.__chain_b" 446 236 1 3 182 461
def o188(P:bq):Obj:=fO "__chain_b" "SequenceMatcher.__chain_b" (stB 5 5) .none .none none 187
def o189(P:bq):Obj:=⟨(.type "tuple"),none,(Data.seq #[(.int 0 464),.none,(.int 0 465),.none] 0),#[]⟩
def o195(P:bq):Obj:=cO "find_longest_match" "SequenceMatcher.find_longest_match" 466 260 5 3 190 488
def o196(P:bq):Obj:=fO "find_longest_match" "SequenceMatcher.find_longest_match" (stB 5 6) (.ref 189) (.str (uV (stB 5 6)) 490) none 195
def o202(P:bq):Obj:=cO "get_matching_blocks" "SequenceMatcher.get_matching_blocks" 492 335 1 3 197 515
def o203(P:bq):Obj:=fO "get_matching_blocks" "SequenceMatcher.get_matching_blocks" (stB 5 7) .none (.str (uV (stB 5 7)) 517) none 202
def o209(P:bq):Obj:=cO "get_opcodes" "SequenceMatcher.get_opcodes" 519 383 1 3 204 530
def o210(P:bq):Obj:=fO "get_opcodes" "SequenceMatcher.get_opcodes" (stB 5 8) .none (.str (uV (stB 5 8)) 532) none 209
def o211(P:bq):Obj:=⟨(.type "tuple"),none,(Data.seq #[(.int 3 534)] 0),#[]⟩
def o217(P:bq):Obj:=cO "get_grouped_opcodes" "SequenceMatcher.get_grouped_opcodes" 535 430 2 35 212 548
def tV(P:bq):Obj:=fO "get_grouped_opcodes" "SequenceMatcher.get_grouped_opcodes" (stB 5 9) (.ref 211) (.str (uV (stB 5 9)) 550) none 217
def o241(P:bq):Obj:=⟨(.type "dict"),none,(Data.dict #[kE P "__module__" 396 (.str "cpy313.difflib" 194),kE P "__firstlineno__" 400 (.int 70 399),kE P "__doc__" 402 (.str docD 401),kE P "__init__" 417 (.ref 160),kE P "set_seqs" 427 (.ref 167),kE P "set_seq1" 436 (.ref 174),kE P "set_seq2" 445 (.ref 181),kE P "_SequenceMatcher__chain_b" 463 (.ref 188),kE P "find_longest_match" 491 (.ref 196),kE P "get_matching_blocks" 518 (.ref 203),kE P "get_opcodes" 533 (.ref 210),kE P "get_grouped_opcodes" 551 (.ref 218),kE P "ratio" 560 (.ref 225),kE P "quick_ratio" 567 (.ref 232),kE P "real_quick_ratio" 574 (.ref 239),kE P "__static_attributes__" 585 (.ref 240),kE P "__dict__" 587 (.ref 243),kE P "__weakref__" 589 (.ref 244)] 3),#[]⟩
def o242(P:bq):Obj:=⟨(.type "type"),none,(Data.cls {name:="SequenceMatcher",bases:=[(.type "object")],mro:=[(.ref 242),(.type "object")],ns:=241,qualname:="SequenceMatcher",hasDict:=ag,slotNames:=[],subclasses:=[],abstract:=af,collection:=none,hasDel:=af}),#[none,none,aa (.str "SequenceMatcher" 389),aa (.str "SequenceMatcher" 397),aa (.builtin "object.__new__"),aa (.bool ag)]⟩
def o252(P:bq):Obj:=cO "_law_lists" "_law_lists" 594 505 1 3 247 601
def o253(P:bq):Obj:=fOx (.str "law_dm0053_01" 592) "_law_lists" "_law_lists" (stA 7) .none .none none 252
def o259(P:bq):Obj:=cO "_law_cut" "_law_cut" 604 518 2 3 254 615
def o260(P:bq):Obj:=fOx (.str "law_dm0053_01" 592) "_law_cut" "_law_cut" (stA 8) .none .none none 259
def o264(P:bq):Obj:=cO0 "_law_groups" "_law_groups" 618 529 2 3 261 621
def o265(P:bq):Obj:=fOx (.str "law_dm0053_01" 592) "_law_groups" "_law_groups" (stA 9) .none .none none 264
def o271(P:bq):Obj:=cO "_law_pulled" "_law_pulled" 624 535 3 3 266 635
def o272(P:bq):Obj:=fOx (.str "law_dm0053_01" 592) "_law_pulled" "_law_pulled" (stA 10) .none .none none 271
def o276(P:bq):Obj:=cO0 "law" "law" 638 552 1 3 273 641
def o277(P:bq):Obj:=fOx (.str "law_dm0053_01" 592) "law" "law" (stA 11) .none .none none 276
def KL(P:bq):sy:=[(0,wk P),(1,boot_o_1 P),(2,xp P),(4,xq P),(5,boot_o_5 P),(6,boot_o_6 P),(7,boot_o_7 P),(8,boot_o_8 P),(9,boot_o_9 P),(10,boot_o_10 P),(3,o3 P),(81,o81 P),(82,o82 P),(88,o88 P),(89,o89 P),(91,o91 P),(134,o134 P),(135,o135 P),(136,o136 P),(153,o153 P),(159,o159 P),(160,zO P),(166,o166 P),(167,o167 P),(173,o173 P),(174,o174 P),(180,o180 P),(181,o181 P),(187,o187 P),(188,o188 P),(189,o189 P),(195,o195 P),(196,o196 P),(202,o202 P),(203,o203 P),(209,o209 P),(210,o210 P),(211,o211 P),(217,o217 P),(218,tV P),(241,o241 P),(242,o242 P),(252,o252 P),(253,o253 P),(259,o259 P),(260,o260 P),(264,o264 P),(265,o265 P),(271,o271 P),(272,o272 P),(276,o276 P),(277,o277 P)]
def endN:Nat:=278
def endK:Nat:=644
def finT(w:jn):BT:=(wY pR w).elim .nil λx=>x.2.2.1
def finP(w:jn):Pos:=(wY pR w).elim default λx=>x.2.1
theorem finEq(w:jn):wY pR w=aa (.ok (.done (.ret .none)),finP w,finT w,endN,endK):=by kernel_rfl
theorem gets(w:jn):((KL w.params).map λx=>((finT w).get x.1).bind alive)=(KL w.params).map λx=>aa x.2:=by kernel_rfl
theorem vN(r:ReadsW R cl h v (.int i) as):∃ t,v= .int i t:=by
 cases r;exact⟨_,rfl⟩
theorem lO(r:vk R cl h vs (d::ds) as):∃ v vs' bs cs,vs=v::vs'/\as=bs++cs/\ReadsW R cl h v d bs/\vk R cl h vs' ds cs:=by
 cases r with |cons a b=>exact⟨_,_,_,_,rfl,rfl,a,b⟩
theorem m6(r:vk R cl h vs [] as):vs= []:=by
 cases r;rfl
theorem tN(r:ReadsW R cl h v (.list xs) as):∃ a o arr n bs,v= .ref a/\a∈as/\h.get? a=aa o/\o.cls= .type "list" /\o.data= .seq arr n/\vk R cl h arr.toList xs bs:=by
 cases r with |list h1 h2 h3 h4=>exact⟨_,_,_,_,_,rfl,jq,h1,h2,h3,h4⟩
theorem pM:∀ {ds:ac WData}{vs:ac au}{as:ac bz},vk R cl h vs ds as->WShape.hasItems R ds .int=ag-> ∃ (ns:ac Int) (ts:ac Tok),ts.length=ns.length/\vs=((ns.zip ts).map λx=>Value.int x.1 x.2)/\ds.length=ns.length:=by
 intro ds
 induction ds with
 |nil=>
  intro vs as r _
  exact⟨[],[],rfl,m6 r,rfl⟩
 |cons d ds ih=>
  intro vs as r hi
  have h:=bx.mp (show(WShape.has R d .int && WShape.hasItems R ds .int)=ag from hi)
  refine xE (hasW_int h.1) λi z130=>?_;subst z130
  refine mS (lO r) λv vs' bs cs z131 _ r1 r2=>rwL z131 ?_
  refine xE (vN r1) λt z132=>rwL z132 ?_
  exact bZ (ih r2 h.2) λns ts hl e hd=>⟨i::ns,t::ts,bg Nat.succ hl,bg (Value.int i t::·) e,bg Nat.succ hd⟩
theorem wN(e:opening p=plainProg p.main.scope.names)(f:∀ s,fenceModules? p s=aa s)(w:jn):∃ s,AfterRun (opening p) w s/\s.heap=cu w.params/\s.gens= #[]/\s.drawn=fx/\s.toks=ow:=by
 refine xEA (df.mp (boot_plain w p.main.scope.names)) λs hs hv=>?_
 simp only[Prod.mk.injEq]at hv
 exact⟨s,(AfterImport.of_importEnds (rwL vv (rwL e hs))),hv.1,hv.2.1,hv.2.2.1,hv.2.2.2⟩
theorem pre63(hbd:l.bound=none)(hmost:l.most=aa 63)(h:(OpenLaw.pre l).holds [] {args:=[.list xs]}=ag):xs.length<=63:=by
 have e:(OpenLaw.pre l).holds [] {args:=[.list xs]}= !decide ((63:Int)<(xs.length:Int)):=by
  unfold OpenLaw.pre
  rw[hbd,hmost]
  unfold WTm.holds
  rw[w_and (w_not (w_lt w_lit (w_len_list (w_arg rfl)))) w_lit]
  cases decide ((63:Int)<(xs.length:Int))<;>rfl
 rw[e]at h
 by_cases q:xs.length<=63
 ·exact q
 ·rw[show decide ((63:Int)<(xs.length:Int))=ag from ao (A62 q)]at h;cases h
theorem zF{H:lu}(stat:∃ o n,H.get? wm=aa o/\o.data= .dict #[] n)(key:Str):vf H key=none:=by
 refine iQ stat λo n h1 h2=>?_
 delta vf
 rw[h1]
 dsimp only
 rw[h2]
 rfl
theorem zG{H:lu}(old:∀ b o,G.get? b=aa o->b≠xr->H.get? b=aa o)(hstat:∀ key,vf H key=none)(key:Str):vf G key=none:=by
 cases hs:vf G key with
 |none=>rfl
 |some v=>
  have:=hstat key
  unfold vf at hs this
  cases hc:G.get? wm with
  |none=>cases (hc▸hs)
  |some o=>
   rw[hc]at hs
   cases (((old _ _ hc (by decide))▸this)▸hs)
theorem aE3{H:lu}(old:∀ b o,G.get? b=aa o->b≠xr->H.get? b=aa o)(hx:G.isNs jv=ag)(x:Str):builtinOf H x=builtinOf G x:=by
 unfold Heap.isNs at hx
 cases hc:G.get? jv with
 |none=>cases (hc▸hx)
 |some o=>
  delta builtinOf
  rw[old _ _ hc (by decide),hc]
theorem aAr{H:lu}{os:ug}(hz:Shared.asleep ⟨cu w.params,#[],fx,ow,os⟩)(run:Sem.wp (gz p w) Γ0 (pg p).cur (λfin _ s'=>fin= .done (.ret .none)/\s'=⟨H,#[],fx,k,os⟩) (λ_ _ _=>fe) default ⟨cu w.params,#[],fx,ow,os⟩)(life:H.life=(cu w.params).life)(old:∀ b o,(cu w.params).get? b=aa o->b≠xr->H.get? b=aa o)(stat:∃ o n,H.get? wm=aa o/\o.data= .dict #[] n)(isn:H.isNs ew=ag)(nb:wc p H=ag)(lk:xu (cu w.params) H=ag)(ib:(cu w.params).isNs jv=ag)(bv:(cu w.params).bltView=vw)(bm:ph H):TopRan p w ⟨cu w.params,#[],fx,ow,os⟩ ⟨H,#[],fx,k,os⟩:=by
 have hs:=zF stat
 refine⟨s8 hz rfl run,life,rfl,λb o hb' hn=>old b o hb' λq=>hn (.inl q),λkey v hv=>?_,λkey=>.inl ((hs key).trans (zG old hs key).symm),Pin.keysAreStrs_of isn,λx hx=>?_,bm,λg hg=>?_,names_of_bound nb,laid_of_kept lk⟩
 ·rw[hs]at hv;cases hv
 ·exact(aE3 old ib x).trans ((Pin.builtinOf_eq ib x).trans (Heap.of_bltView ib bv x hx))
 ·exact ba hg (by simp)
def aA9(l:OpenLaw)(vs:ac au):Sem Fin:=do match<-nsGet xr l.name with
   |some f=>do ret (<-PySem.call f vs)
   |none=>uz "claim.caller:no-such-global"
theorem wK{H:lu}{os:ug}(hbd:l.bound=none)(hmost:l.most=aa 63)(isn:H.isNs ew=ag)(hfa:H.nsMap ew l.name=aa (.ref fa))(walk:∀ (s₁:ak) (a:bz) (ns:ac Int) (ts:ac Tok),(∀ b o,H.get? b=aa o->s₁.heap.get? b=aa o)->s₁.gens= #[]-> ts.length=ns.length->ns.length<=63->s₁.heap.IsList a ((ns.zip ts).map λx=>Value.int x.1 x.2).toArray->H.get? a=none-> ar (gz l.prog w) xj (call (.ref fa) [.ref a]) (λv s'=>v= .bool ag/\(∀ b o,s₁.heap.get? b=aa o->s'.heap.get? b=aa o)/\s'.os=s₁.os/\pv s'.gens) (λ_ _=>fe) s₁)(args:ac WData)(hpre:l.row.toRowW.claim.pre args=ag)(hlay:WData.layableAll args=ag)(ord:ac wq->ac wq)(hord:∀ l,(ord l).Perm l):∃ vs s₁,layAllW [] (classAt H) w.params ord args ⟨H,#[],fx,k,os⟩=aa (vs,s₁)/\ ar (gz l.prog w) xj (aA9 l vs) (λfin s'=>∃ f,fin= .done f/\(l.row.toRowW.claim.Ends ⟨H,#[],fx,k,os⟩ args vs s₁ (.ok f) s'/\s'.os=os/\pv s'.gens)) (λe s'=>l.row.toRowW.claim.Ends ⟨H,#[],fx,k,os⟩ args vs s₁ (.error e) s'/\s'.os=os/\pv s'.gens) s₁:=by
 have hp:=bx.mp hpre
 refine bZ (hasAllW_cons hp.1) λd ds z133 h1 h2=>?_;subst z133
 obtain rfl:=hasAllW_nil h2
 refine xEA (hasW_list h1) λxs z134 hi=>?_;subst z134
 refine xE (Option.isSome_iff_exists.mp (layAllW_isSome (R:=[]) (cl:=classAt H) (P:=w.params) (ord:=ord) (λc hc=>by cases hc) [.list xs] l.row.toRowW.args ⟨H,#[],fx,k,os⟩ hp.1)) λz135 hlaid=>?_;obtain⟨vs,s₁⟩:=z135
 have keeps:=layAllW_keeps _ _ _ hlaid
 have hal:=layAllW_rest _ _ _ hlaid
 refine cX (reads_layAllW hord _ _ _ hlaid hlay s₁.heap (λ_ _ e=>e)) λas hrd hin hold=>⟨vs,s₁,hlaid,mS (lO hrd) λv vs' bs cs evs eas r1 r2=>sX (tN r1) λa o vs2 n as2 ev ha ho hc hdt hr=>bZ (pM hr hi) λns ts hl hv hxs=>?_⟩
 have ev2:vs= [.ref a]:=evs.trans (by rw[ev,m6 r2])
 refine rwL ev2 ?_
 have h63:ns.length<=63:=by
  exact rwR hxs (pre63 hbd hmost hp.2)
 have hA:(H).get? a=none:=by
  cases hq:(H).get? a with
  |none=>rfl
  |some o'=>exact ba (Heap.lt_size hq) (Nat.not_lt.mpr ((hin.2.2 a (eas▸List.mem_append_left _ ha)).1))
 have hnsg:s₁.heap.Ns ew ((H).nsMap ew):=by
  exact iI (Heap.Ns.of_isNs isn) λo' es n' h1 h2=>⟨o',es,n',keeps _ _ h1,h2⟩
 delta aA9
 refine zzB (wpAny_nsGet hnsg (rwL hfa (zzB (dv (walk s₁ a ns ts keeps hal.1 hl h63 ⟨o,ho,hc,n,by rw[hdt,<-hv]⟩ hA) (λv s' g=>(xAAA g λz136 gk gos gg=>?_)) λ_ _ x=>x.elim))));clear g;subst z136
 refine zzP ⟨_,rfl,?_⟩
 have z:=GoodWG.laid (c:=l.row.toRowW.claim) rfl rfl (ident_freeW rfl rfl rfl) (ev2▸(⟨⟨ord,hord,hlaid⟩,hrd,hin,hold,keeps,hal.1,hal.2.2.1⟩:Laid [] w ⟨H,#[],fx,k,os⟩ s₁ [.list xs] vs as)) ⟨.inl ⟨.bool ag,.bool ag,[],rfl,λ_=>rfl,.bool ag,by kernel_rfl,λ_=>⟨.nil,λ_ h=>nomatch h⟩⟩,.of_keep gk,gos,gg⟩
 exact⟨z.1,z.2.1,z.2.2⟩
theorem v6{l:OpenLaw}{H₁:jn->lu}(hwr:l.writes=af)(hbd:l.bound=none)(hmost:l.most=aa 63)(said:l.row.wellSaid=ag)(prom:l.row.toRowW.promised)(hb:l.prog.bare)(o1:opensWell l.prog=ag)(e1:opening l.prog=plainProg l.prog.main.scope.names)(f1:∀ s,fenceModules? l.prog s=aa s)(run:∀ w os,Sem.wp (gz l.prog w) Γ0 (pg l.prog).cur (λfin _ s'=>fin= .done (.ret .none)/\s'=⟨H₁ w,#[],fx,k,os⟩) (λ_ _ _=>fe) default ⟨cu w.params,#[],fx,ow,os⟩)(life:∀ w,(H₁ w).life=(cu w.params).life)(old:∀ w b o,(cu w.params).get? b=aa o->b≠xr->(H₁ w).get? b=aa o)(stat:∀ w,∃ o n,(H₁ w).get? wm=aa o/\o.data= .dict #[] n)(isn:∀ w,(H₁ w).isNs ew=ag)(nb:∀ w,wc l.prog (H₁ w)=ag)(lk:∀ w,xu (cu w.params) (H₁ w)=ag)(ib:∀ w:jn,(cu w.params).isNs jv=ag)(bv:∀ w:jn,(cu w.params).bltView=vw)(bm:∀ w,ph (H₁ w))(pin:∀ w,isTheDefsW l.prog (H₁ w) l.name)(hfa:∀ w,(H₁ w).nsMap ew l.name=aa (.ref fa))(walk:∀ (w:jn) (s₁:ak) (a:bz) (ns:ac Int) (ts:ac Tok),(∀ b o,(H₁ w).get? b=aa o->s₁.heap.get? b=aa o)->s₁.gens= #[]-> ts.length=ns.length->ns.length<=63->s₁.heap.IsList a ((ns.zip ts).map λx=>Value.int x.1 x.2).toArray->(H₁ w).get? a=none-> ar (gz l.prog w) xj (call (.ref fa) [.ref a]) (λv s'=>v= .bool ag/\(∀ b o,s₁.heap.get? b=aa o->s'.heap.get? b=aa o)/\s'.os=s₁.os/\pv s'.gens) (λ_ _=>fe) s₁):l.row.Holds:=by
 refine⟨said,prom,⟨hb,o1,rfl⟩,xEA prom λargs h1 h2=>⟨args,h1,(bx.mp h2).1⟩,λw=>?_⟩
 refine aAn (wN e1 f1 w) λs₀ hA hh hg hd ht=>⟨⟨s₀,hA⟩,λs' hs'=>?_⟩
 obtain rfl:s'=s₀:=AfterImport.unique hs' hA
 obtain⟨heap,gens,drawn,toks,os⟩:=s'
 dsimp only at hh hg hd ht
 subst hh hg hd ht
 have hz:=AfterImport.life hA
 refine⟨_,f1 _,rfl,⟨H₁ w,#[],fx,k,os⟩,(aAr hz (run w os) (life w) (old w) (stat w) (isn w) (nb w) (lk w) (ib w) (bv w) (bm w)),λn hn=>?_,λx hx=>(nomatch (show x∈([]:WRecords) from hx)),λx hx=>(nomatch (show x∈([]:WRecords) from hx)),?_⟩
 ·obtain rfl:n=l.name:=by simpa [OpenLaw.row] using hn
  exact pin w
 refine ClaimW.callFrom_of_specG (tree:=aA9 l) (Shared.asleep_of_life (life w) hz) rfl λargs hpre hlay ord hord=>iQ (wK (k:=k) (os:=os) hbd hmost (isn w) (hfa w) (walk w) args hpre hlay ord hord) λvs s₁ q1 q2=>?_
 have no: ¬l.row.writes=ag:=λq=>by rw[show l.row.writes=l.writes from rfl,hwr]at q;cases q
 exact⟨vs,s₁,q1,dv q2 (λfin s' y=>xEAAA y λf e g1 g2 g3=>⟨f,e,g1,g2,g3,λq=>ba q no⟩) λe s' z=>xAA z λg1 g2 g3=>⟨g1,g2,g3,λq=>ba q no⟩⟩
def H1(w:jn):lu:=uh (finT w) endN (cu w.params).life
theorem bt0_eq(P:bq):uh (bt0 P) 11 (cu P).life=cu P:=by kernel_rfl
theorem aCq(P:bq):((KL P).all λx=>blt x.1 endN)=ag:=by kernel_rfl
theorem wS(w:jn):(KL w.params).In (H1 w):=by
 have key:∀ (K:sy) (T:BT) (n:Nat) (life:Life),(K.map λx=>(T.get x.1).bind alive)=K.map (λx=>aa x.2)->(K.all λx=>blt x.1 n)=ag->K.In (uh T n life):=by
  intro K T n life
  induction K with
  |nil=>intro _ _ a o e;cases e
  |cons p r ih=>
   obtain⟨b,x⟩:=p
   intro h1 h2 a o e
   simp only[jf,List.cons.injEq]at h1
   simp only[List.all_cons,Bool.and_eq_true]at h2
   simp only[List.lookup]at e
   split at e
   ·rename_i q
    refine cxS e ?_
    obtain rfl:=beq_iff_eq.mp q
    exact xEA (aj.mp h1.1) λo' g1 g2=>(abs_get (ip h2.1) g1).trans g2
   ·exact ih h1.2 h2.2 a o e
 exact key _ _ _ _ (gets w) (aCq w.params)
theorem aF4(w:jn)(os:ug):Sem.wp (gz pw w) Γ0 (pg pw).cur (λfin _ s'=>fin= .done (.ret .none)/\s'=⟨H1 w,#[],fx,endK,os⟩) (λ_ _ _=>fe) default ⟨cu w.params,#[],fx,ow,os⟩:=by
 have h:=finEq w
 unfold wY at h
 rw[<-den_eq,<-p_eq]at h
 have e:ab (cu w.params).life #[] fx os (bt0 w.params) 11 ow=⟨cu w.params,#[],fx,ow,os⟩:=by
  delta ab;rw[bt0_eq]
 exact rwR e (aD8 (gz pw w) (cu w.params).life #[] fx os (λhq=>wD (gz pw w) (cu w.params).life #[] fx os 3000 hq) _ (rwL h ⟨rfl,rfl⟩))
theorem get3(w:jn):(H1 w).get? 3=aa (o3 w.params):=wS w _ _ ⋯
theorem old1(w:jn)(b:bz)(o:Obj)(h:(cu w.params).get? b=aa o)(hn:b≠xr):(H1 w).get? b=aa o:=by
 have hlt:b<11:=Heap.lt_size h
 have K:=wS w
 match b,hlt,hn with
 |0,_,_=>
  rw[(by kernel_rfl:(cu w.params).get? 0=aa (wk w.params))]at h;exact cxS h (K _ _ ⋯)
 |1,_,_=>
  rw[(by kernel_rfl:(cu w.params).get? 1=aa (boot_o_1 w.params))]at h;exact cxS h (K _ _ ⋯)
 |2,_,_=>
  rw[(by kernel_rfl:(cu w.params).get? 2=aa (xp w.params))]at h;exact cxS h (K _ _ ⋯)
 |3,_,hn=>exact ba rfl hn
 |4,_,_=>
  rw[(by kernel_rfl:(cu w.params).get? 4=aa (xq w.params))]at h;exact cxS h (K _ _ ⋯)
 |5,_,_=>
  rw[(by kernel_rfl:(cu w.params).get? 5=aa (boot_o_5 w.params))]at h;exact cxS h (K _ _ ⋯)
 |6,_,_=>
  rw[(by kernel_rfl:(cu w.params).get? 6=aa (boot_o_6 w.params))]at h;exact cxS h (K _ _ ⋯)
 |7,_,_=>
  rw[(by kernel_rfl:(cu w.params).get? 7=aa (boot_o_7 w.params))]at h;exact cxS h (K _ _ ⋯)
 |8,_,_=>
  rw[(by kernel_rfl:(cu w.params).get? 8=aa (boot_o_8 w.params))]at h;exact cxS h (K _ _ ⋯)
 |9,_,_=>
  rw[(by kernel_rfl:(cu w.params).get? 9=aa (boot_o_9 w.params))]at h;exact cxS h (K _ _ ⋯)
 |10,_,_=>
  rw[(by kernel_rfl:(cu w.params).get? 10=aa (boot_o_10 w.params))]at h;exact cxS h (K _ _ ⋯)
 |b+11,hlt,_=>exact ba hlt (Nat.not_lt.mpr (nh 11 b))
theorem ns3(w:jn)(x:Str):(H1 w).nsMap ew x=(match (o3 w.params).data with | .dict es _=>nsFind es x |_=>none):=by
 unfold Heap.nsMap ew;rw[get3];rfl
theorem isn1(w:jn):(H1 w).isNs ew=ag:=by
 unfold Heap.isNs ew;rw[get3];kernel_rfl
theorem keys3(w:jn):(H1 w).nsKeys ew=(match (o3 w.params).data with
  | .dict es _=>es.toList.filterMap λe=>match e.key with | .str n _=>aa n |_=>none
  |_=>[]):=by
 unfold Heap.nsKeys ew;rw[get3];rfl
theorem nb1(w:jn):wc pw (H1 w)=ag:=by
 delta wc;rw[isn1,keys3];kernel_rfl
theorem lk1(w:jn):xu (cu w.params) (H1 w)=ag:=by
 delta xu;rw[isn1];kernel_rfl
theorem ib1(w:jn):(cu w.params).isNs jv=ag:=by kernel_rfl
theorem bv1(w:jn):(cu w.params).bltView=vw:=by kernel_rfl
theorem bm1(w:jn):ph (H1 w):=by
 refine⟨4,xq w.params,?_,wS w _ _ ⋯,by kernel_rfl,by kernel_rfl⟩
 rw[Pin.globalOf_eq (isn1 w),ns3];kernel_rfl
def law:Str:=Str.ofString "law"
theorem fa1(w:jn):(H1 w).nsMap ew law=aa (.ref 277):=by rw[ns3];kernel_rfl
theorem pin1(w:jn):isTheDefsW pw (H1 w) law:=by
 exact⟨277,o277 w.params,_,_,_,_,(Pin.globalOf_eq (isn1 w) _).trans (fa1 w),wS w _ _ ⋯,rfl,(by kernel_rfl:pw.theDef law=aa (fPar (stA 11),cU (stA 11),fSco (stA 11))),rfl,rfl,rfl,rfl,rfl,rfl,rfl,rfl,⟨.inl ⟨rfl,rfl⟩,[],rfl,.inl ⟨rfl,rfl⟩⟩⟩
theorem said5:OpenLaw.wellSaid PySem.Challenge.rw_dm0053_01=ag:=by kernel_rfl
theorem head(walk:∀ (w:jn) (s₁:ak) (a:bz) (ns:ac Int) (ts:ac Tok),(∀ b o,(H1 w).get? b=aa o->s₁.heap.get? b=aa o)->s₁.gens= #[]-> ts.length=ns.length->ns.length<=63->s₁.heap.IsList a ((ns.zip ts).map λx=>Value.int x.1 x.2).toArray->(H1 w).get? a=none-> ar (gz pw w) xj (call (.ref 277) [.ref a]) (λv s'=>v= .bool ag/\(∀ b o,s₁.heap.get? b=aa o->s'.heap.get? b=aa o)/\s'.os=s₁.os/\pv s'.gens) (λ_ _=>fe) s₁):PySem.Challenge.rw_dm0053_01.Holds:=by
 exact holds_law said5 λsaid=>v6 rfl rfl rfl said ⟨[.list []],by decide+kernel,by decide+kernel⟩ ⟨rfl,rfl,rfl,rfl,rfl,by decide+kernel⟩ (by decide+kernel) ⋯ (λs=>by kernel_rfl)
  aF4 (λ_=>rfl) old1 (λw=>⟨xp w.params,0,wS w _ _ ⋯,by kernel_rfl⟩) isn1 nb1 lk1 ib1 bv1 bm1 pin1 fa1 walk
def nth(b:ac jb)(k:Nat):jb:=(b.drop k).headD (.Pass ⟨0,0,0,0⟩)
def e0:Expr:=.Constant .none 0 ⟨0,0,0,0⟩
def p0:Pos:=⟨0,0,0,0⟩
def forT:jb->Expr | .For t _ _ _ _=>t |_=>e0
def forI:jb->Expr | .For _ i _ _ _=>i |_=>e0
def forB:jb->ac jb | .For _ _ b _ _=>b |_=>[]
def forP:jb->Pos | .For _ _ _ _ p=>p |_=>p0
def ifT:jb->Expr | .If t _ _ _=>t |_=>e0
def ifB:jb->ac jb | .If _ b _ _=>b |_=>[]
def ifP:jb->Pos | .If _ _ _ p=>p |_=>p0
def exE:jb->Expr | .Expr e _=>e |_=>e0
def exP:jb->Pos | .Expr _ p=>p |_=>p0
def yiE:Expr->Expr | .Yield (aa e) _=>e |_=>e0
def yiP:Expr->Pos | .Yield _ p=>p |_=>p0
def gshOf(fd:ux)(fa:bz)(b:ac jb)(k:Nat):GSh:=let f:=nth b k
 let i1:=nth (forB f) 0
 let i2:=nth b (k+1)
 {fd:=fd,fa:=fa,pre:=b.take k,target:=forT f,iter:=forI f,cond:=ifT i1,ye:=yiE (exE (nth (ifB i1) 1)),cond2:=ifT i2,ye2:=yiE (exE (nth (ifB i2) 0)),s1:=nth (ifB i1) 0,s3:=nth (forB f) 1,s2:=(ifB i1).drop 2,p1:=yiP (exE (nth (ifB i1) 1)),p2:=exP (nth (ifB i1) 1),p3:=yiP (exE (nth (ifB i2) 0)),p4:=exP (nth (ifB i2) 0),p5:=ifP i1,p6:=ifP i2,p7:=forP f}
theorem aDj(fd:ux):(gshOf fd 218 (cU (stB 5 9)) 7).body=cU (stB 5 9):=by kernel_rfl
def bJ(o:Obj):ux:=match o.data with | .func fd=>fd |_=> {name:="",qualname:="",params:=⟨[],[],none,[],[],none,[]⟩,body:=.stmts [],scope:=default,globals:=0,closure:=[],defaults:=.none,kwdefaults:=.none,doc:=.none,pyModule:=.none,annotations:=none,code:=.none,closureTuple:=.none,builtins:=0}
noncomputable abbrev gsh(P:bq):GSh:=gshOf (bJ (tV P)) 218 (cU (stB 5 9)) 7
structure XX(C:Cx) where
 w:jn
 base:∀ b o,(H1 w).get? b=aa o->C.base.heap.get? b=aa o
 gr:∀ ρ s l gn,C.GR ρ s l gn=fA (gsh w.params) ρ s l gn
variable(X:XX C)
theorem XX.get{b:bz}(h:(KL X.w.params).lookup b=aa o):C.base.heap.get? b=aa o:=X.base _ _ (wS X.w _ _ h)
theorem XX.inK:(KL X.w.params).In C.base.heap:=λ_ _ h=>X.get h
theorem XX.sys(X:XX C):∃ o,C.base.heap.get? mz=aa o:=⟨_,X.get (Option.eq_some_of_isSome (by kernel_rfl:((KL X.w.params).lookup mz).isSome=ag))⟩
theorem xG{h:lu}{a:bz}(e:h.get? a=aa o)(hn:(match o.data with | .dict es _=>es.all (λx=>match x.key with | .str _ _=>ag |_=>af) |_=>af)=ag):h.Ns a (λx=>match o.data with | .dict es _=>nsFind es x |_=>none):=by
 have q:h.isNs a=ag:=by unfold Heap.isNs;exact rwL e hn
 have y:h.nsMap a=(λx=>match o.data with | .dict es _=>nsFind es x |_=>none):=by funext x;unfold Heap.nsMap;rw[e];rfl
 exact rwR y (Heap.Ns.of_isNs q)
theorem XX.smc(X:XX C):SMC C:=by
 refine⟨⟨_,_,_,_,_,_,_,_,_,_,_,_,X.get (o:=o242 X.w.params) ⋯⟩,⟨_,xG (X.get (o:=o241 X.w.params) ⋯) ⋯,?_,by kernel_rfl,by kernel_rfl,by kernel_rfl,?_⟩,?_⟩
 ·intro x hx
  simp only[dI,ez,fg,wj]at hx
  rcases hx with rfl |rfl |rfl |rfl |rfl |rfl |rfl |rfl |rfl |rfl<;>kernel_rfl
 ·intro p hp
  simp only[eT,ez,fg,wj]at hp
  rcases hp with rfl |rfl |rfl |rfl |rfl |rfl |rfl |rfl |rfl<;>kernel_rfl
 ·intro p hp
  simp only[eT,ez,fg,wj]at hp
  rcases hp with rfl |rfl |rfl |rfl |rfl |rfl |rfl |rfl |rfl
  ·exact⟨zO X.w.params,X.get ⋯,rfl⟩
  ·exact⟨o167 X.w.params,X.get ⋯,rfl⟩
  ·exact⟨o174 X.w.params,X.get ⋯,rfl⟩
  ·exact⟨o181 X.w.params,X.get ⋯,rfl⟩
  ·exact⟨o188 X.w.params,X.get ⋯,rfl⟩
  ·exact⟨o196 X.w.params,X.get ⋯,rfl⟩
  ·exact⟨o203 X.w.params,X.get ⋯,rfl⟩
  ·exact⟨o210 X.w.params,X.get ⋯,rfl⟩
  ·exact⟨tV X.w.params,X.get ⋯,rfl⟩
theorem XX.kc:KCx C (KL X.w.params) where
 mem:=X.inK
 makes:=by kernel_rfl
 init:=by kernel_rfl
 initT:=by kernel_rfl
 callS:=by kernel_rfl
 callM:=by kernel_rfl
 typM:=by kernel_rfl
 clsM:=⟨_,_,_,_,(by kernel_rfl:(KL X.w.params).lookup aF=aa (o135 X.w.params)),by kernel_rfl,by kernel_rfl,by kernel_rfl,by kernel_rfl,by kernel_rfl,by kernel_rfl,by kernel_rfl⟩
 clsS:=⟨_,_,_,_,(by kernel_rfl:(KL X.w.params).lookup dY=aa (o242 X.w.params))⟩
 readsM:=by kernel_rfl
 newM:=by kernel_rfl
 makeM:=by kernel_rfl
 smM:=by kernel_rfl
 cmM:=⟨Value.bool af,by kernel_rfl⟩
 initM:=by kernel_rfl
 newT:=by kernel_rfl
theorem XX.km:KMx C (KL X.w.params) where
 toK:=X.kc
 bases:=⟨_,_,_,_,(by kernel_rfl:(KL X.w.params).lookup aF=aa (o135 X.w.params)),by kernel_rfl⟩
 iter:=by kernel_rfl
 len:=by kernel_rfl
 lt:=by kernel_rfl
 tup:=by kernel_rfl
def nmL(env:Env)(x:Str):dj:=(match env.kindOf x with |some .local=>ag |some .cell=>ag |some .free=>ag |_=>af) && !(x==("__debug__" :Str)) && !(x==("__classdict__" :Str))
theorem vV(h:nmL env x=ag):(env.kindOf x=aa .local\/env.kindOf x=aa .cell\/env.kindOf x=aa .free)/\(x==("__debug__" :Str))=af/\(x==("__classdict__" :Str))=af:=by
 have h1:=bx.mp h
 have h2:=bx.mp h1.1
 refine⟨?_,Bool.not_eq_true' _ |>.mp h2.2,Bool.not_eq_true' _ |>.mp h1.2⟩
 have h3:=h2.1
 revert h3
 cases env.kindOf x with
 |none=>intro h;cases h
 |some k=>cases k<;>intro h<;>first |exact .inl rfl |exact .inr (.inl rfl) |exact .inr (.inr rfl) |cases h
theorem EV.nm(h:nmL env x=ag):EV C r env (.Name x pos) (eN x):=EV.name (vV h).1 (vV h).2.1 (vV h).2.2
def nmB(env:Env)(x:Str):dj:=match env.kindOf x with |some .local=>ag |some .cell=>ag |_=>af
theorem nms_ok{l:ac Str}(h:l.all (nmB env)=ag)(x:Str)(hx:x∈l):env.kindOf x=aa .local\/env.kindOf x=aa .cell:=by
 have h3:=ie.mp h x hx
 unfold nmB at h3
 revert h3
 cases env.kindOf x with
 |none=>intro h;cases h
 |some k=>cases k<;>intro h<;>first |exact .inl rfl |exact .inr rfl |cases h
def nmD(ns:ac (Str×jx))(x:Str):dj:=match ns.lookup x with |some .local=>ag |some .cell=>ag |_=>af
theorem dL{l:ac Str}(h:l.all (nmD ns)=ag)(x:Str)(hx:x∈l):ns.lookup x=aa .local\/ns.lookup x=aa .cell:=by
 have h3:=ie.mp h x hx
 unfold nmD at h3
 revert h3
 cases ns.lookup x with
 |none=>intro h;cases h
 |some k=>cases k<;>intro h<;>first |exact .inl rfl |exact .inr rfl |cases h
theorem aCb{ns:ac (Str×jx)}{l:ac Str}(h:l.all (λx=>ns.lookup x==aa .local)=ag)(x:Str)(hx:x∈l):ns.lookup x=aa .local:=pn (ie.mp h x hx)
theorem nofree{l:ac (Str×jx)}(h:(l.all λx=>match x.2 with | .free=>af |_=>ag)=ag)(x:Str):l.lookup x≠aa .free:=by
 exact λe=>(Bool.false_ne_true (ie.mp h _ (mem_of_lookup e)))
theorem XX.def_{a:bz}(h1:(KL X.w.params).lookup a=aa o)(h2:(KL X.w.params).lookup c=aa oc)(e1:o.data= .func (bJ o))(e2:(bJ o).code= .ref c)(e3:oc.data= .fields vs)(e4:vs[1]? =aa (.str (bJ o).qualname t))(e5:(bJ o).body= .stmts body)(e6:(bJ o).closure= [])(e7:(bJ o).globals=ew)(e8:(bJ o).builtins=jv)(e9:(bJ o).scope.kind= .function)(ea:(bJ o).scope.isCoroutine=af)(eb:((bJ o).scope.names.all λx=>match x.2 with | .free=>af |_=>ag)=ag):Def C a (bJ o) body:=⟨⟨_,X.get h1,e1⟩,⟨c,_,_,_,e2,X.get h2,e3,e4⟩,e5,e6,e7,e8,e9,ea,nofree eb⟩
def alln(P:ac au->Prop)(n:Nat):ac au->Prop:=n.rec P λ_ ih l=>∀ a,ih (l++[a])
theorem aHk:∀ {l us:ac au},us.length=n->alln P n l->P (l++us):=by
 induction n with
 |zero=>intro l us h p;cases List.eq_nil_of_length_eq_zero h;rw[cw];exact p
 |succ n ih=>
  intro l us h p
  cases us with
  |nil=>cases h
  |cons a us=>rw[List.append_cons];exact ih (Nat.succ.inj h) (p a)
theorem XX.bnd{dflt:ac au}(n:Nat)(e:names.length=n+dflt.length)(h:alln (λus=>∀ S,peek (KL X.w.params) S (bindArgs fd ⟨us,[]⟩)=aa (names.zip (us++dflt))) n []):Binds C fd names dflt:=λs us hk hl M A E Q q=>
 (Looks.of_peek (X.kc.mem.keeps hk) (aHk (Nat.add_right_cancel (am.symm.trans (hl.trans e))) h _)).here q
theorem XX.ns3:C.base.heap.Ns ew (λx=>match (o3 X.w.params).data with | .dict es _=>nsFind es x |_=>none):=xG (X.get (o:=o3 X.w.params) ⋯) ⋯
theorem XX.ns0:C.base.heap.Ns jv (λx=>match (wk X.w.params).data with | .dict es _=>nsFind es x |_=>none):=xG (X.get (o:=wk X.w.params) ⋯) ⋯
theorem XX.g_Match(X:XX C):Glo C "Match" (.ref aF):=⟨_,X.ns3,.inl ⋯⟩
theorem XX.g_SequenceMatcher(X:XX C):Glo C "SequenceMatcher" (.ref dY):=⟨_,X.ns3,.inl ⋯⟩
theorem XX.g__law_lists(X:XX C):Glo C "_law_lists" (.ref 253):=⟨_,X.ns3,.inl ⋯⟩
theorem XX.g__law_cut(X:XX C):Glo C "_law_cut" (.ref 260):=⟨_,X.ns3,.inl ⋯⟩
theorem XX.g__law_groups(X:XX C):Glo C "_law_groups" (.ref 265):=⟨_,X.ns3,.inl ⋯⟩
theorem XX.g__law_pulled(X:XX C):Glo C "_law_pulled" (.ref 272):=⟨_,X.ns3,.inl ⋯⟩
theorem XX.g_next(X:XX C):Glo C "next" (.builtin "next"):=⟨_,X.ns3,.inr ⟨by kernel_rfl,_,X.ns0,by kernel_rfl⟩⟩
theorem XX.g_list(X:XX C):Glo C "list" (.type "list"):=⟨_,X.ns3,.inr ⟨by kernel_rfl,_,X.ns0,by kernel_rfl⟩⟩
theorem XX.g_map(X:XX C):Glo C "map" (.type "map"):=⟨_,X.ns3,.inr ⟨by kernel_rfl,_,X.ns0,by kernel_rfl⟩⟩
theorem XX.g_set(X:XX C):Glo C "set" (.type "set"):=⟨_,X.ns3,.inr ⟨by kernel_rfl,_,X.ns0,by kernel_rfl⟩⟩
theorem XX.g_range(X:XX C):Glo C "range" (.type "range"):=⟨_,X.ns3,.inr ⟨by kernel_rfl,_,X.ns0,by kernel_rfl⟩⟩
theorem XX.g_enumerate(X:XX C):Glo C "enumerate" (.type "enumerate"):=⟨_,X.ns3,.inr ⟨by kernel_rfl,_,X.ns0,by kernel_rfl⟩⟩
theorem XX.g_tuple(X:XX C):Glo C "tuple" (.type "tuple"):=⟨_,X.ns3,.inr ⟨by kernel_rfl,_,X.ns0,by kernel_rfl⟩⟩
theorem XX.g_len(X:XX C):Glo C "len" (.builtin "len"):=⟨_,X.ns3,.inr ⟨by kernel_rfl,_,X.ns0,by kernel_rfl⟩⟩
theorem XX.g_max(X:XX C):Glo C "max" (.builtin "max"):=⟨_,X.ns3,.inr ⟨by kernel_rfl,_,X.ns0,by kernel_rfl⟩⟩
theorem XX.g_min(X:XX C):Glo C "min" (.builtin "min"):=⟨_,X.ns3,.inr ⟨by kernel_rfl,_,X.ns0,by kernel_rfl⟩⟩
theorem XX.g_sum(X:XX C):Glo C "sum" (.builtin "sum"):=⟨_,X.ns3,.inr ⟨by kernel_rfl,_,X.ns0,by kernel_rfl⟩⟩
theorem XX.g_abs(X:XX C):Glo C "abs" (.builtin "abs"):=⟨_,X.ns3,.inr ⟨by kernel_rfl,_,X.ns0,by kernel_rfl⟩⟩
theorem XX.d_new:Def C 82 (bJ (o82 X.w.params)) (cU (stB 3 4)):=X.def_ (oc:=o81 X.w.params) ⋯ ⋯ rfl rfl rfl rfl rfl rfl rfl rfl ⋯ ⋯ ⋯
theorem XX.b_new:Binds C (bJ (o82 X.w.params)) ["_cls","a","b","size"] []:=X.bnd 4 rfl λ_ _ _ _ _=>by kernel_rfl
theorem XX.d_make:Def C 89 (bJ (o89 X.w.params)) (cU (stB 3 5)):=X.def_ (oc:=o88 X.w.params) ⋯ ⋯ rfl rfl rfl rfl rfl rfl rfl rfl ⋯ ⋯ ⋯
theorem XX.b_make:Binds C (bJ (o89 X.w.params)) ["cls","iterable"] []:=X.bnd 2 rfl λ_ _ _=>by kernel_rfl
theorem XX.d_init:Def C 160 (bJ (zO X.w.params)) (cU (stB 5 1)):=X.def_ (oc:=o159 X.w.params) ⋯ ⋯ rfl rfl rfl rfl rfl rfl rfl rfl ⋯ ⋯ ⋯
theorem XX.b_init:Binds C (bJ (zO X.w.params)) ["self","isjunk","a","b","autojunk"] []:=X.bnd 5 rfl λ_ _ _ _ _ _=>by kernel_rfl
theorem XX.b_init1:Binds C (bJ (zO X.w.params)) ["self","isjunk","a","b","autojunk"] [Value.bool ag]:=X.bnd 4 rfl λ_ _ _ _ _=>by kernel_rfl
theorem XX.d_set_seqs:Def C 167 (bJ (o167 X.w.params)) (cU (stB 5 2)):=X.def_ (oc:=o166 X.w.params) ⋯ ⋯ rfl rfl rfl rfl rfl rfl rfl rfl ⋯ ⋯ ⋯
theorem XX.b_set_seqs:Binds C (bJ (o167 X.w.params)) ["self","a","b"] []:=X.bnd 3 rfl λ_ _ _ _=>by kernel_rfl
theorem XX.d_set_seq1:Def C 174 (bJ (o174 X.w.params)) (cU (stB 5 3)):=X.def_ (oc:=o173 X.w.params) ⋯ ⋯ rfl rfl rfl rfl rfl rfl rfl rfl ⋯ ⋯ ⋯
theorem XX.b_set_seq1:Binds C (bJ (o174 X.w.params)) ["self","a"] []:=X.bnd 2 rfl λ_ _ _=>by kernel_rfl
theorem XX.d_set_seq2:Def C 181 (bJ (o181 X.w.params)) (cU (stB 5 4)):=X.def_ (oc:=o180 X.w.params) ⋯ ⋯ rfl rfl rfl rfl rfl rfl rfl rfl ⋯ ⋯ ⋯
theorem XX.b_set_seq2:Binds C (bJ (o181 X.w.params)) ["self","b"] []:=X.bnd 2 rfl λ_ _ _=>by kernel_rfl
theorem XX.d_chain_b:Def C 188 (bJ (o188 X.w.params)) (cU (stB 5 5)):=X.def_ (oc:=o187 X.w.params) ⋯ ⋯ rfl rfl rfl rfl rfl rfl rfl rfl ⋯ ⋯ ⋯
theorem XX.b_chain_b:Binds C (bJ (o188 X.w.params)) ["self"] []:=X.bnd 1 rfl λ_ _=>by kernel_rfl
theorem XX.d_find_longest_match:Def C 196 (bJ (o196 X.w.params)) (cU (stB 5 6)):=X.def_ (oc:=o195 X.w.params) ⋯ ⋯ rfl rfl rfl rfl rfl rfl rfl rfl ⋯ ⋯ ⋯
theorem XX.b_find_longest_match:Binds C (bJ (o196 X.w.params)) ["self","alo","ahi","blo","bhi"] []:=X.bnd 5 rfl λ_ _ _ _ _ _=>by kernel_rfl
theorem XX.d_get_matching_blocks:Def C 203 (bJ (o203 X.w.params)) (cU (stB 5 7)):=X.def_ (oc:=o202 X.w.params) ⋯ ⋯ rfl rfl rfl rfl rfl rfl rfl rfl ⋯ ⋯ ⋯
theorem XX.b_get_matching_blocks:Binds C (bJ (o203 X.w.params)) ["self"] []:=X.bnd 1 rfl λ_ _=>by kernel_rfl
theorem XX.d_get_opcodes:Def C 210 (bJ (o210 X.w.params)) (cU (stB 5 8)):=X.def_ (oc:=o209 X.w.params) ⋯ ⋯ rfl rfl rfl rfl rfl rfl rfl rfl ⋯ ⋯ ⋯
theorem XX.b_get_opcodes:Binds C (bJ (o210 X.w.params)) ["self"] []:=X.bnd 1 rfl λ_ _=>by kernel_rfl
theorem XX.d_get_grouped_opcodes:Def C 218 (bJ (tV X.w.params)) (cU (stB 5 9)):=X.def_ (oc:=o217 X.w.params) ⋯ ⋯ rfl rfl rfl rfl rfl rfl rfl rfl ⋯ ⋯ ⋯
theorem XX.b_get_grouped_opcodes:Binds C (bJ (tV X.w.params)) ["self","n"] []:=X.bnd 2 rfl λ_ _ _=>by kernel_rfl
theorem XX.b_get_grouped_opcodes1:Binds C (bJ (tV X.w.params)) ["self","n"] [Value.int 3 534]:=X.bnd 1 rfl λ_ _=>by kernel_rfl
theorem XX.d__law_lists:Def C 253 (bJ (o253 X.w.params)) (cU (stA 7)):=X.def_ (oc:=o252 X.w.params) ⋯ ⋯ rfl rfl rfl rfl rfl rfl rfl rfl ⋯ ⋯ ⋯
theorem XX.b__law_lists:Binds C (bJ (o253 X.w.params)) ["script"] []:=X.bnd 1 rfl λ_ _=>by kernel_rfl
theorem XX.d__law_cut:Def C 260 (bJ (o260 X.w.params)) (cU (stA 8)):=X.def_ (oc:=o259 X.w.params) ⋯ ⋯ rfl rfl rfl rfl rfl rfl rfl rfl ⋯ ⋯ ⋯
theorem XX.b__law_cut:Binds C (bJ (o260 X.w.params)) ["rows","least"] []:=X.bnd 2 rfl λ_ _ _=>by kernel_rfl
theorem XX.d__law_groups:Def C 265 (bJ (o265 X.w.params)) (cU (stA 9)):=X.def_ (oc:=o264 X.w.params) ⋯ ⋯ rfl rfl rfl rfl rfl rfl rfl rfl ⋯ ⋯ ⋯
theorem XX.b__law_groups:Binds C (bJ (o265 X.w.params)) ["rows","n"] []:=X.bnd 2 rfl λ_ _ _=>by kernel_rfl
theorem XX.d__law_pulled:Def C 272 (bJ (o272 X.w.params)) (cU (stA 10)):=X.def_ (oc:=o271 X.w.params) ⋯ ⋯ rfl rfl rfl rfl rfl rfl rfl rfl ⋯ ⋯ ⋯
theorem XX.b__law_pulled:Binds C (bJ (o272 X.w.params)) ["reader","now","given"] []:=X.bnd 3 rfl λ_ _ _ _=>by kernel_rfl
theorem XX.d_law:Def C 277 (bJ (o277 X.w.params)) (cU (stA 11)):=X.def_ (oc:=o276 X.w.params) ⋯ ⋯ rfl rfl rfl rfl rfl rfl rfl rfl ⋯ ⋯ ⋯
theorem XX.b_law:Binds C (bJ (o277 X.w.params)) ["script"] []:=X.bnd 1 rfl λ_ _=>by kernel_rfl
theorem XX.gc:GCx C (gsh X.w.params) where
 gr:=X.gr
 loc:=λL x=>by
  have h:∀ k,((gsh X.w.params).envL L).kindOf x=aa k->k≠ .cell/\k≠ .free:=λk e=>by
   have:=ie.mp (by kernel_rfl:(bJ (tV X.w.params)).scope.names.all (λp=>match p.2 with | .cell=>af | .free=>af |_=>ag)=ag) _ (mem_of_lookup e)
   constructor<;>rintro rfl<;>simp at this
  exact⟨λe=>(h _ e).1 rfl,λe=>(h _ e).2 rfl⟩
 cells:=λL=>by kernel_rfl
 kind:=by kernel_rfl
 gl:=by kernel_rfl
 bi:=by kernel_rfl
universe u v
structure Pk(α:Type u)(P:α->Prop):Type u where
 f:α
 ok:P f
def bd{α:Type u}{P:α->Prop}{β:Type v}(o:ae (Pk α P))(k:∀ f,P f->ae β):ae β:=o.rec none λR=>R.rec k
def gtO{α:Type u}{P:α->Prop}(o:ae (Pk α P)):ae α:=o.rec none λR=>aa R.1
theorem tQ{α:Type u}{P:α->Prop}{o:ae (Pk α P)}{f:α}(h:gtO o=aa f):P f:=by
 cases o with
 |none=>cases h
 |some R=>exact cxS h R.2
def orE{β:Type u}(o k:ae β):ae β:=o.rec k aa
def onN{β:Type u}(n m:Nat)(k:n=m->ae β)(o:ae β):ae β:=if h:n=m then k h else o
def onS{β:Type u}(x y:Str)(k:x=y->ae β)(o:ae β):ae β:=if h:x=y then k h else o
def onB{β:Type u}(b:dj)(k:b=ag->ae β):ae β:=if h:b=ag then k h else none
def onF{β:Type u}(b:dj)(k:b=af->ae β):ae β:=if h:b=af then k h else none
noncomputable abbrev Kn:=Str->ae jx
structure KE(κ:Kn)(env:Env):Prop where
 kd:env.kindOf=κ
 sk:env.scope.kind= .function
structure Pf(e:Expr):Prop where
 star:∀ es env,di (e::es) env=(af,iw e env)::di es env
 sub:∀ o i,subscripted e af o i=operate [o,i] (px o i)
 beh:∀ op,vp op e=af
 fold:∀ env x,gu e env x=pure x
 sw:e.ctorIdx.beq 8=af->∀ t l env,qs e t l env=pure af
 nb:e.ctorIdx.beq 16=af->∀ x env,jp e x env (iw e env)=iw e env
 lg:e.ctorIdx.beq 23=ag->∀ o x,my e o x=pure ()
 tv:(e.ctorIdx.beq 0 || e.ctorIdx.beq 3 || e.ctorIdx.beq 5 || e.ctorIdx.beq 15)=af->∀ env,isTrue e env (iw e env)=(do let v<-iw e env;xd e.pos;sj [v] (truthy v))
 nt:e.ctorIdx.beq 25=af->∀ ts n p env,jo [.Tuple ts n p] e env=pure none
theorem fT(h: [0,2,3,5,6,8,15,16,19,20,21,23,24,25].elem e.ctorIdx=ag):Pf e:=by
 have z:∀ {P:Prop},ag=af->P:=λh=>(Bool.false_ne_true h.symm).elim
 cases e<;>first |exact z h.symm |exact ⟨λ_ _=>rfl,λ_ _=>rfl,λ_=>rfl,λ_ _=>rfl,by first |exact λ_ _ _ _=>rfl |exact z,by first |exact λ_ _ _=>rfl |exact z,by first |exact λh=>z h.symm |exact λ_ _ _=>rfl,by first |exact λ_ _=>rfl |exact z,by first |exact λ_ _ _ _ _=>rfl |exact z⟩
structure EP(C:Cx)(r:Nat)(κ:Kn)(e:Expr)(f:EF):Prop where
 ok:∀ ⦃env:Env⦄,KE κ env->EV C r env e f
 pf:Pf e
noncomputable abbrev RE(C:Cx)(r:Nat)(κ:Kn)(e:Expr):=Pk EF (EP C r κ e)
structure EsP(C:Cx)(r:Nat)(κ:Kn)(es:ac Expr)(f:EFs):Prop where
 ok:∀ ⦃env:Env⦄,KE κ env->EVs C r env es f
 fl:∀ env,mC env es
def TP(C:Cx)(r:Nat)(κ:Kn)(e:Expr)(f:TF):Prop:=∀ ⦃env:Env⦄,KE κ env->TV C r env e f
noncomputable abbrev RT(C:Cx)(r:Nat)(κ:Kn)(e:Expr):=Pk TF (TP C r κ e)
noncomputable abbrev dEt(C:Cx)(r:Nat):=∀ (κ:Kn) (e:Expr),ae (RE C r κ e)
noncomputable abbrev dTt(C:Cx)(r:Nat):=∀ (κ:Kn) (e:Expr),ae (RT C r κ e)
structure Fn(C:Cx) where
 x:Str
 n:Nat
 v:au
 r0:Nat
 g:CF
 cv:CV C r0 v g
 gl:Glo C x v
structure Mth(C:Cx) where
 x:Str
 n:Nat
 a:bz
 r0:Nat
 g:CF
 cv:CV C r0 (.ref a) g
 hm:eT.contains (x,a)=ag
structure Kti(C:Cx) where
 K:ItK C
 fi:EF->IF K
 ok:∀ {r env e f},EV C r env e f->IV K r env e (fi f)
 re:iH K
 tg:∀ t,K.tg t
structure DX(C:Cx) where
 smc:SMC C
 T:ac (Fn C)
 M:ac (Mth C)
 kt:Expr->Kti C
 fr:sy
 km:KMx C fr
 en:Glo C "enumerate" (.type "enumerate")
 sys:∃ o,C.base.heap.get? mz=aa o
 xe:∀ {r:Nat} (d:dEt C r) (t:dTt C r) (κ:Kn) (e:Expr),ae (RE C r κ e)
 xt:∀ {r:Nat} (d:dEt C r) (κ:Kn) (e:Expr),ae (RT C r κ e)
 xs:∀ {r:Nat} (d:dEt C r) (κ:Kn) (st:jb),ae (Pk SF λf=>∀ ⦃env:Env⦄,KE κ env->SV C r env st f)
def dCo(κ:Kn)(c:Const)(k:Nat)(p:Pos):ae (RE C r κ (.Constant c k p)):=have pf:Pf (.Constant c k p):=fT rfl
 onN c.ctorIdx 2 (λh=>Const.int.elim (motive:=λc=>Pf (.Constant c k p)->ae (RE C r κ (.Constant c k p))) c h (λi pf=>aa ⟨eK (.int i),λ_ _=>EV.int,pf⟩) pf) <|
 onN c.ctorIdx 5 (λh=>Const.str.elim (motive:=λc=>Pf (.Constant c k p)->ae (RE C r κ (.Constant c k p))) c h (λi pf=>aa ⟨eK (.str i),λ_ _=>EV.str,pf⟩) pf) <|
 onN c.ctorIdx 1 (λh=>Const.bool.elim (motive:=λc=>Pf (.Constant c k p)->ae (RE C r κ (.Constant c k p))) c h (λi pf=>aa ⟨eK (.bool i),λ_ _=>EV.bool,pf⟩) pf) <|
 onN c.ctorIdx 0 (λh=>Const.none.elim (motive:=λc=>Pf (.Constant c k p)->ae (RE C r κ (.Constant c k p))) c h (λpf=>aa ⟨eK .none,λ_ _=>EV.none,pf⟩) pf) none
def nmK(κ:Kn)(x:Str):dj:=(match κ x with |some .local=>ag |some .cell=>ag |some .free=>ag |_=>af) && !(x==("__debug__" :Str)) && !(x==("__classdict__" :Str))
theorem KE.nm(k:KE κ env)(h:nmK κ x=ag):nmL env x=ag:=by delta nmL;exact rwL k.kd h
def glK(κ:Kn)(x:Str):dj:=κ x==aa .globalImplicit && !(x==("__debug__" :Str))
theorem KE.gl(k:KE κ env)(h:glK κ x=ag):env.kindOf x=aa .globalImplicit/\(x==("__debug__" :Str))=af:=have h2:=bx.mp h
 ⟨by exact rwL k.kd (pn h2.1),Bool.not_eq_true' _ |>.mp h2.2⟩
def dEs(d:dEt C r)(κ:Kn)(es:ac Expr):ae (Pk EFs (EsP C r κ es)):=es.rec
 (aa ⟨esN,λ_ _=>EVs.nil,λ_=>⟨.inl rfl,λ_=>rfl⟩⟩)
 λe es ih=>bd (d κ e) λf h=>bd ih λg hs=>aa ⟨esC f g,λ_ k=>EVs.cons (h.ok k) (hs.ok k) (h.pf.star _ _),λenv=>⟨.inr ⟨e,es,rfl,h.pf.star _ _⟩,λpos=>by rw[h.pf.star];exact(hs.fl env).2 pos⟩⟩
theorem EsP.al(h:EsP C r κ es f)(env:Env)(pos:Pos):(ky pos (di es env)).all (λx=> !x.1)=ag:=by
 rw[<-List.not_any_eq_all_not,(h.fl env).2];rfl
def opP(C:Cx)(r:Nat)(op:Operator)(g:OpF):Prop:=OpR C r (qf op) g
def dOp(op:Operator):ae (Pk OpF (opP C r op)):=op.casesOn (motive:=λop=>ae (Pk OpF (opP C r op))) (aa ⟨aL,OpR.add⟩) (aa ⟨b5,OpR.sub⟩) (aa ⟨oMul,OpR.mul⟩) none none (aa ⟨c6,OpR.mod⟩) none none none none none none (aa ⟨q7,OpR.div⟩)
def cmP(C:Cx)(r:Nat)(op:CmpOp)(g:OpF):Prop:=OpR C r (ji op) g
def dCm(op:CmpOp):ae (Pk OpF (cmP C r op)):=op.casesOn (motive:=λop=>ae (Pk OpF (cmP C r op))) (aa ⟨aS id,OpR.eq⟩) (aa ⟨aS not,OpR.ne⟩) (aa ⟨oLt,OpR.lt⟩) (aa ⟨oLe,OpR.le⟩) (aa ⟨oGt,OpR.gt⟩) (aa ⟨oGe,OpR.ge⟩) (aa ⟨oIs id,OpR.is_⟩) (aa ⟨oIs not,OpR.isNot⟩) (aa ⟨oIn id,OpR.in_⟩) (aa ⟨oIn not,OpR.notIn⟩)
def fnd(x:Str)(n:Nat)(l:ac (Fn C)):ae (Pk (Fn C) λt=>t.x=x):=l.rec none λt _ ih=>onS t.x x (λh=>bif t.n.beq 99 || t.n.beq n then aa ⟨t,h⟩ else ih) ih
def fndM(x:Str)(n:Nat)(l:ac (Mth C)):ae (Pk (Mth C) λt=>t.x=x):=l.rec none λt _ ih=>onS t.x x (λh=>bif t.n.beq 99 || t.n.beq n then aa ⟨t,h⟩ else ih) ih
theorem mshape(p:Pf o)(hc:o.ctorIdx.beq 16=af)(al:EsP C r κ as f)(hl:as.length.blt 30=ag)(hk:(ap.endLine==pos.line)=ag):eZ env o x ap pos as:=⟨p.nb hc _ _,by rw[al.al];exact ao (ip hl),hk⟩
theorem bk1(p:Pf e)(env:Env)(pos:Pos):ky pos (di [e] env)= [(af,iw e env)]:=by rw[p.star];rfl
theorem bk2(p:Pf e)(q:Pf e2)(env:Env)(pos:Pos):ky pos (di [e,e2] env)= [(af,iw e env),(af,iw e2 env)]:=by rw[p.star,q.star];rfl
theorem pfC:Pf (.Call f as ks p):=fT rfl
theorem es1(h:EP C r κ e f):EsP C r κ [e] (esC f esN):=⟨λ_ k=>EVs.cons (h.ok k) EVs.nil (h.pf.star _ _),λenv=>⟨.inr ⟨e,_,rfl,h.pf.star _ _⟩,λpos=>by rw[h.pf.star];rfl⟩⟩
theorem es0:EsP C r κ [] esN:=⟨λ_ _=>EVs.nil,λ_=>⟨.inl rfl,λ_=>rfl⟩⟩
theorem es2(h:EP C r κ e f)(h2:EP C r κ e2 f2):EsP C r κ [e,e2] (esC f (esC f2 esN)):=⟨λ_ k=>EVs.cons (h.ok k) ((es1 h2).ok k) (h.pf.star _ _),λenv=>⟨.inr ⟨e,_,rfl,h.pf.star _ _⟩,λpos=>by rw[h.pf.star];exact((es1 h2).fl env).2 pos⟩⟩
def dMe(D:DX C)(d:dEt C r)(κ:Kn)(o:Expr)(m:Str)(ap:Pos)(as:ac Expr)(pos:Pos)(f:EF)(h:EP C r κ o f)(hc:o.ctorIdx.beq 16=af)(hk:(ap.endLine==pos.line)=ag):ae (RE C r κ (.Call (.Attribute o m ap) as [] pos)):=orE (onS m "append" (λq=>as.casesOn none λe z=>z.casesOn (bd (d κ e) λf2 h2=>aa ⟨cV f f2,λ_ k=>by subst q;exact EV.append (h.ok k) (h2.ok k) (mshape h.pf hc (es1 h2) rfl hk) (bk1 h2.pf _ _),pfC⟩) λ_ _=>none) <|
  onS m "pop" (λq=>as.casesOn (aa ⟨ePop f,λ_ k=>by subst q;exact EV.pop (h.ok k) (mshape h.pf hc (es0 (C:=C) (r:=r) (κ:=κ)) rfl hk),pfC⟩) λ_ _=>none) <|
  onS m "setdefault" (λq=>as.casesOn none λe z=>z.casesOn none λe2 z=>z.casesOn (bd (d κ e) λf2 h2=>bd (d κ e2) λf3 h3=>aa ⟨yR f f2 f3,λ_ k=>by subst q;exact EV.setdefault D.sys (h.ok k) (h2.ok k) (h3.ok k) (mshape h.pf hc (es2 h2 h3) rfl hk) (bk2 h2.pf h3.pf _ _),pfC⟩) λ_ _=>none) <|
  onS m "get" (λq=>as.casesOn none λe z=>z.casesOn none λe2 z=>z.casesOn (bd (d κ e) λf2 h2=>bd (d κ e2) λf3 h3=>aa ⟨eGet f f2 f3,λ_ k=>by subst q;exact EV.get D.sys (h.ok k) (h2.ok k) (h3.ok k) (mshape h.pf hc (es2 h2 h3) rfl hk) (bk2 h2.pf h3.pf _ _),pfC⟩) λ_ _=>none) none) <|
 bd (dEs d κ as) λg hs=>bd (fndM m as.length D.M) λt te=>onB (t.r0.ble r) λhr=>onB (as.length.blt 30) λhl=>aa ⟨cS t.g f g,λ_ k=>EV.meth D.smc (te▸jt.mp t.hm) (t.cv.lift hr) (h.ok k) (hs.ok k) (hs.fl _) (mshape h.pf hc hs hl hk),pfC⟩
def dCl(D:DX C)(d:dEt C r)(κ:Kn)(fn:Expr)(as:ac Expr)(ks:ac wh)(pos:Pos):ae (RE C r κ (.Call fn as ks pos)):=ks.casesOn (onN fn.ctorIdx 23 (λq=>Expr.Name.elim fn q λx np=>orE
  (onB (nmK κ x) λhx=>bd (dEs d κ as) λg hs=>aa ⟨eCv (eN x) g,λ_ k=>EV.callV D.sys (EV.nm (k.nm hx)) (hs.ok k) (hs.fl _),pfC⟩) <|
  onB (glK κ x) λhg=>bd (dEs d κ as) λg hs=>bd (fnd x as.length D.T) λt te=>onB (t.r0.ble r) λhr=>aa ⟨aK t.g g,λ_ k=>EV.call (t.cv.lift hr) (te▸t.gl) (hs.ok k) (hs.fl _) (k.gl hg).1 (k.gl hg).2,pfC⟩) <|
 onN fn.ctorIdx 20 (λq=>Expr.Attribute.elim fn q λo m ap=>bd (d κ o) λf h=>onF (o.ctorIdx.beq 16) λhc=>onB (ap.endLine==pos.line) λhk=>dMe D d κ o m ap as pos f h hc hk) none) λ_ _=>none
def alP(C:Cx)(r:Nat)(κ:Kn)(op:BoolOp)(es:ac Expr)(f:TF):Prop:=∀ ⦃env:Env⦄,KE κ env->jJ C r env op es f
def dAll(t:dTt C r)(κ:Kn)(op:BoolOp)(es:ac Expr):ae (Pk TF (alP C r κ op es)):=op.casesOn (motive:=λop=>ae (Pk TF (alP C r κ op es)))
 (es.rec (aa ⟨tK ag,λ_ _=>jJ.and_nil⟩) λe es ih=>bd (t κ e) λf h=>bd ih λg hs=>aa ⟨aX f g,λ_ k=>jJ.and_cons (h k) (hs k)⟩)
 (es.rec (aa ⟨tK af,λ_ _=>jJ.or_nil⟩) λe es ih=>bd (t κ e) λf h=>bd ih λg hs=>aa ⟨tOr f g,λ_ k=>jJ.or_cons (h k) (hs k)⟩)
def dCmp{M:Expr->Type}(d:dEt C r)(κ:Kn)(l:Expr)(ops:ac CmpOp)(rs:ac Expr)(p:Pos)(w:∀ op e f g o,EP C r κ l f->EP C r κ e g->cmP C r op o->M (.Compare l [op] [e] p)):ae (M (.Compare l ops rs p)):=ops.casesOn none λop z=>z.casesOn (rs.casesOn none λe z=>z.casesOn (bd (d κ l) λf h=>bd (d κ e) λg h2=>bd (dCm (C:=C) (r:=r) op) λo ho=>aa (w op e f g o h h2 ho)) λ_ _=>none) λ_ _=>none
def dT1(D:DX C)(d:dEt C r)(t:dTt C r):dTt C r:=λκ e=>
 orE (onN e.ctorIdx 3 (λq=>Expr.UnaryOp.elim e q λop x p=>onN op.ctorIdx 1 (λq=>UnaryOp.Not.elim (motive:=λop=>ae (RT C r κ (.UnaryOp op x p))) op q <| bd (t κ x) λf h=>aa ⟨mD f,λ_ k=>TV.not (h k)⟩) none) <|
  onN e.ctorIdx 0 (λq=>Expr.BoolOp.elim e q λop vs p=>bd (dAll t κ op vs) λf h=>aa ⟨f,λ_ k=>TV.boolOp (h k)⟩) <|
  onN e.ctorIdx 15 (λq=>Expr.Compare.elim e q λl ops rs p=>dCmp d κ l ops rs p λop e f g o h h2 ho=>⟨tE (aA o f g),λ_ k=>TV.cmp1 (h.ok k) (h2.ok k) ho (h2.pf.beh _)⟩) <|
  onF (e.ctorIdx.beq 0 || e.ctorIdx.beq 3 || e.ctorIdx.beq 5 || e.ctorIdx.beq 15) λhs=>bd (d κ e) λf h=>aa ⟨tE f,λ_ k=>TV.val (h.ok k) (h.pf.tv hs _)⟩) <| D.xt d κ e
def dTi(D:DX C)(n:Nat)(d:dEt C r):dTt C r:=n.rec (λ_ _=>none) λ_ ih=>dT1 D d ih
structure RIt(C:Cx)(r:Nat)(κ:Kn)(e:Expr) where
 K:ItK C
 fi:IF K
 ok:∀ ⦃env:Env⦄,KE κ env->IV K r env e fi
 re:iH K
 b:dj
 tg:∀ t,(b || t.ctorIdx.beq 25)=ag->K.tg t
 nd:K.need<=r
 fold:∀ env x,gu e env x=pure x
def dEn(D:DX C)(d:dEt C r)(κ:Kn)(e:Expr):ae (RIt C r κ e):=onN e.ctorIdx 16 (λq=>Expr.Call.elim e q λfn as ks pos=>
 ks.casesOn (as.casesOn none λa z=>z.casesOn (onN fn.ctorIdx 23 (λq=>Expr.Name.elim fn q λx np=>
  onS x "enumerate" (λhx=>onB (glK κ "enumerate") λhg=>bd (d κ a) λf h=>aa ⟨nG C,iL f,λ_ k=>by subst hx;exact IV.enum (h.ok k) D.en (k.gl hg).1 ((es1 h).fl _) (h.pf.star _ _),iH.enum,af,
   λt ht=>Expr.Tuple.elim t (Nat.eq_of_beq_eq_true ht) λ_ _ _=>⟨_,_,_,rfl⟩,gw _,λ_ _=>rfl⟩) none) none) λ_ _=>none) λ_ _=>none) none
def dIi(D:DX C)(d:dEt C r)(κ:Kn)(e:Expr):ae (RIt C r κ e):=orE (dEn D d κ e) <| bd (d κ e) λf h=>onB ((D.kt e).K.need.ble r) λhn=>aa ⟨(D.kt e).K,(D.kt e).fi f,λ_ k=>(D.kt e).ok (h.ok k),(D.kt e).re,ag,λt _=>(D.kt e).tg t,ip hn,h.pf.fold⟩
structure AP(W:Env->bz->Prop)(C:Cx)(r:Nat)(κ:Kn)(e:Expr)(f:AF):Prop where
 ok:∀ ⦃env:Env⦄,KE κ env->AVW C W r env e f
 st:∀ ts env,eh (e::ts) env=(af,vy e env)::eh ts env
 s1:∀ v env,Pf v->(e.ctorIdx.beq 25 && v.ctorIdx.beq 25)=af->jo [e] v env=pure none
 s2:∀ t ts v env,jo (e::t::ts) v env=pure none
structure AsP(W:Env->bz->Prop)(C:Cx)(r:Nat)(κ:Kn)(es:ac Expr)(f:AFs):Prop where
 ok:∀ ⦃env:Env⦄,KE κ env->pB C W r env es f
 ln:∀ env,(eh es env).length=es.length
 nf:∀ env,(eh es env).findIdx? (·.1)=none
def dAs(a:∀ e,ae (Pk AF (AP W C r κ e)))(es:ac Expr):ae (Pk AFs (AsP W C r κ es)):=es.rec
 (aa ⟨asN,λ_ _=>pB.nil,λ_=>rfl,λ_=>rfl⟩)
 λe es ih=>bd (a e) λf h=>bd ih λg hs=>aa ⟨asC f g,λ_ k=>pB.cons (h.ok k) (hs.ok k) (h.st _ _),λenv=>by rw[h.st];exact bg (·+1) (hs.ln env),λenv=>by rw[h.st,List.findIdx?_cons,hs.nf];rfl⟩
def dLi(κ:Kn)(n:Nat):∀ e,ae (Pk AF (AP LW C r κ e)):=n.rec (λ_=>none) λ_ ih e=>
 onN e.ctorIdx 23 (λq=>Expr.Name.elim e q λx p=>onB (κ x==aa .local) λh=>aa ⟨aN x,λ_ k=>ALV.name (by rw[k.kd];exact pn h),λ_ _=>rfl,λ_ _ _ _=>rfl,λ_ _ _ _=>rfl⟩) <|
 onN e.ctorIdx 25 (λq=>Expr.Tuple.elim e q λts k p=>bd (dAs ih ts) λf h=>aa ⟨wQ ts.length f,λ_ k=>ALV.tuple (h.ok k) (h.ln _) (h.nf _),λ_ _=>rfl,λ_ _ p n=>p.nt n _ _ _ _,λ_ _ _ _=>rfl⟩) none
def stK(κ:Kn)(x:Str):dj:=match κ x with |some .local=>ag |some .cell=>ag |_=>af
theorem KE.st(k:KE κ env){l:ac Str}(h:l.all (stK κ)=ag):∀ x∈l,env.kindOf x=aa .local\/env.kindOf x=aa .cell:=nms_ok (by cases k.kd;exact h)
theorem KE.s_(k:KE κ env)(h:stK κ x=ag):env.kindOf x=aa .local\/env.kindOf x=aa .cell:=k.st (l:=[x]) (by show(stK κ x && ag)=ag;rw[Bool.and_true];exact h) x (.head _)
def dA(D:DX C)(d:dEt C r)(κ:Kn)(n:Nat):∀ e,ae (Pk AF (AP Wr C r κ e)):=n.rec (λ_=>none) λ_ ih e=>
 onN e.ctorIdx 23 (λq=>Expr.Name.elim e q λx p=>onB (stK κ x) λh=>aa ⟨aN x,λ_ k=>AV.name (k.s_ h),λ_ _=>rfl,λ_ _ _ _=>rfl,λ_ _ _ _=>rfl⟩) <|
 onN e.ctorIdx 25 (λq=>Expr.Tuple.elim e q λts k p=>bd (dAs ih ts) λf h=>aa ⟨cG ts.length f,λ_ k=>AV.tupleM D.km (h.ok k) (h.ln _) (h.nf _),λ_ _=>rfl,λ_ _ p n=>p.nt n _ _ _ _,λ_ _ _ _=>rfl⟩) <|
 onN e.ctorIdx 21 (λq=>Expr.Subscript.elim e q λa b p=>bd (d κ a) λf h=>bd (d κ b) λg h2=>aa ⟨fY f g,λ_ k=>AV.sub (h.ok k) (h2.ok k),λ_ _=>rfl,λ_ _ _ _=>rfl,λ_ _ _ _=>rfl⟩) <|
 onN e.ctorIdx 20 (λq=>Expr.Attribute.elim e q λa x p=>bd (d κ a) λf h=>onB (dI.contains x) λhx=>aa ⟨eP x f,λ_ k=>AV.attr D.smc (jt.mp hx) (h.ok k),λ_ _=>rfl,λ_ _ _ _=>rfl,λ_ _ _ _=>rfl⟩) none
def cKi(κ:Kn)(sc:tu):Kn:=λx=>(sc.names.lookup x).map λk=>if (k== .free && ScopeKind.function==ScopeKind.function && κ x==aa .cell)=ag then .cell else k
theorem KE.comp(k:KE κ env)(h:sc.kind= .function)(L:bz):KE (cKi κ sc) (gS env sc L):=⟨by
 funext x
 rw[jG]
 unfold vT cKi
 rw[k.sk,k.kd],h⟩
def hidOf(sc:tu):ac Str:=sc.names.filterMap λp=>if (p.2== .local)=ag then aa p.1 else none
def csK(κ:Kn)(sc:tu)(hid:ac Str):dj:=decide (sc.kind= .function) && ((sc.names.all λp=>p.2 != .cell) && ((sc.names.all λp=>p.2 != .free || (κ p.1==aa .cell)) && ((sc.names.all λp=>p.2 != .local || (sc.names.lookup p.1==aa .local && hid.contains p.1)) && (hid.all λx=>sc.names.lookup x != aa .free))))
theorem KE.cs(k:KE κ env)(h:csK κ sc hid=ag):lK env sc hid/\(hid.all λx=>sc.names.lookup x != aa .free)=ag:=have a:=bx.mp h
 have b:=bx.mp a.2
 have c:=bx.mp b.2
 ⟨⟨cx a.1,b.1,by exact rwL k.kd c.1,(bx.mp c.2).1⟩,(bx.mp c.2).2⟩
theorem cm_eq{g:mj}(h:g.is_async=0):g=⟨g.target,g.iter,g.ifs,0⟩:=by
 cases g
 subst h
 rfl
def cnP(C:Cx)(r:Nat)(κ:Kn)(cs:ac Expr)(f:TF):Prop:=∀ ⦃env:Env⦄,KE κ env->CnV C r env cs f
def dCn(t:dTt C r)(κ:Kn)(cs:ac Expr):ae (Pk TF (cnP C r κ cs)):=cs.rec (aa ⟨tK ag,λ_ _=>CnV.nil⟩) λe es ih=>bd (t κ e) λf h=>bd ih λg hs=>aa ⟨aX f g,λ_ k=>CnV.cons (h k) (hs k)⟩
def bP(C:Cx)(r:Nat)(κ:Kn)(elt:Expr)(gens:ac mj)(sc:tu)(pos:Pos)(j:Nat)(f:BF):Prop:=∀ ⦃env:Env⦄,KE κ env->BV C r env elt gens sc pos j f
def dBi(D:DX C)(d:dEt C r)(t:dTt C r)(κ:Kn)(elt:Expr)(gens:ac mj)(sc:tu)(pos:Pos)(n:Nat):∀ j,ae (Pk BF (bP C r κ elt gens sc pos j)):=n.rec (λ_=>none) λ_ ih j=>
 Option.rec (motive:=λo=>gens[j+1]? =o->ae (Pk BF (bP C r κ elt gens sc pos j))) (λhg=>bd (d κ elt) λf h=>aa ⟨eY f,λ_ k=>BV.last (h.ok k) hg⟩)
  (λg hg=>(dIi D d κ g.iter).rec none λR=>bd (dLi (C:=C) (r:=r) κ 4 g.target) λta ht=>bd (dCn t κ g.ifs) λc hc=>bd (ih (j+1)) λbf hb=>onB (R.b || g.target.ctorIdx.beq 25) λhT=>if ha:g.is_async=0 then
   aa ⟨bMore R.K R.fi ta c bf,λ_ k=>BV.more (hg.trans (bg aa (cm_eq ha))) R.re (R.ok k) (ht.ok k) (hc k) (hb k) ⟨R.tg _ hT,R.nd⟩ (R.fold _)⟩ else none) gens[j+1]? rfl
structure CP(C:Cx)(r:Nat)(κ:Kn)(elt:Expr)(gens:ac mj)(sc:tu)(pos:Pos)(f:EF):Prop where
 ok:∀ ⦃env:Env⦄,KE κ env->EV C r env (.ListComp elt gens sc pos) f
 as:∀ ⦃env:Env⦄{x:Str}{p q:Pos},KE κ env->env.kindOf x=aa .local->qs (.ListComp elt gens sc pos) (aa (.Name x p)) q.line env=pure ag->SV C r env (.Assign [.Name x p] (.ListComp elt gens sc pos) q) (bF x f)
def dC(D:DX C)(d:dEt C r)(t:dTt C r)(κ:Kn)(elt:Expr)(gens:ac mj)(sc:tu)(pos:Pos):ae (Pk EF (CP C r κ elt gens sc pos)):=gens.casesOn none λg gs=>g.casesOn λgt gi gf ga=>onB (csK κ sc (hidOf sc)) λhc=>
 (dIi D d κ gi).rec none λR=>bd (dLi (C:=C) (r:=r) (cKi κ sc) 4 gt) λta ht=>bd (dCn t (cKi κ sc) gf) λc hcn=>bd (dBi D d t (cKi κ sc) elt (⟨gt,gi,gf,0⟩::gs) sc pos 4 0) λbf hb=>onB (R.b || gt.ctorIdx.beq 25) λhT=>if ha:ga=0 then
  aa ⟨eX R.K (hidOf sc) R.fi ta c bf,ha.symm▸⟨λ_ k=>have q:=k.comp (k.cs hc).1.kind;EV.comp (k.cs hc).1 (k.cs hc).2 R.re (R.ok k) (λL=>ht.ok (q L)) (λL=>hcn (q L)) (λL=>hb (q L)) ⟨R.tg _ hT,R.nd⟩ (R.fold _),
   λ_ _ _ _ k hx hs=>have q:=k.comp (k.cs hc).1.kind;SV.assignC hx hs (k.cs hc).1 (k.cs hc).2 R.re (R.ok k) (λL=>ht.ok (q L)) (λL=>hcn (q L)) (λL=>hb (q L)) ⟨R.tg _ hT,R.nd⟩ (R.fold _)⟩⟩ else none
theorem nm_cl{e:Expr}(h:e.ctorIdx.beq 23=ag):e.ctorIdx.beq 16=af:=by rw[Nat.eq_of_beq_eq_true h];rfl
def dAt(D:DX C)(d:dEt C r)(κ:Kn)(a:Expr)(x:Str)(p:Pos):ae (RE C r κ (.Attribute a x p)):=have pf:Pf (.Attribute a x p):=fT rfl
 bd (d κ a) λf h=>orE (onB (a.ctorIdx.beq 23) λhn=>orE
   (onB (dI.contains x) λhx=>aa ⟨eG x f,λ_ k=>EV.attr D.smc (jt.mp hx) (h.ok k) (h.pf.nb (nm_cl hn) _ _) (h.pf.lg hn),pf⟩)
   (onS x "get" (λhx=>aa ⟨eBd .dget okD f,λ_ k=>by subst hx;exact EV.dget (h.ok k) (h.pf.nb (nm_cl hn) _ _) (h.pf.lg hn),pf⟩) none)) <|
  onF (a.ctorIdx.beq 16) λhc=>onS x "__contains__" (λhx=>aa ⟨eBd .scon okS f,λ_ k=>by subst hx;exact EV.scon2 (h.ok k) (h.pf.nb hc _ _),pf⟩) none
def dE1(D:DX C)(d:dEt C r):dEt C r:=λκ e=>orE
 (onN e.ctorIdx 23 (λq=>Expr.Name.elim e q λx p=>onB (nmK κ x) λh=>aa ⟨eN x,λ_ k=>EV.nm (k.nm h),fT rfl⟩) <|
 onN e.ctorIdx 19 (λq=>Expr.Constant.elim e q λc k p=>dCo κ c k p) <|
 onN e.ctorIdx 2 (λq=>Expr.BinOp.elim e q λa op b p=>bd (d κ a) λf h=>bd (d κ b) λg h2=>bd (dOp (C:=C) (r:=r) op) λo ho=>aa ⟨aA o f g,λ_ k=>EV.binOp (h.ok k) (h2.ok k) ho,fT rfl⟩) <|
 onN e.ctorIdx 21 (λq=>Expr.Subscript.elim e q λa b p=>bd (d κ a) λf h=>bd (d κ b) λg h2=>aa ⟨aA aO f g,λ_ k=>EV.idx (h.ok k) (h2.ok k) λo i=>⟨_,h2.pf.sub o i⟩,fT rfl⟩) <|
 onN e.ctorIdx 15 (λq=>Expr.Compare.elim e q λl ops rs p=>dCmp d κ l ops rs p λop e f g o h h2 ho=>⟨aA o f g,λ_ k=>EV.cmp1 (h.ok k) (h2.ok k) ho (h2.pf.beh _),fT rfl⟩) <|
 onN e.ctorIdx 3 (λq=>Expr.UnaryOp.elim e q λop a p=>onN op.ctorIdx 3 (λq=>UnaryOp.USub.elim (motive:=λop=>ae (RE C r κ (.UnaryOp op a p))) op q <| bd (d κ a) λf h=>aa ⟨gQ f,λ_ k=>EV.neg (h.ok k),fT rfl⟩) none) <|
 onN e.ctorIdx 25 (λq=>Expr.Tuple.elim e q λes k p=>bd (dEs d κ es) λf h=>aa ⟨bD f,λ_ k=>EV.tuple (h.ok k),fT rfl⟩) <|
 onN e.ctorIdx 24 (λq=>Expr.List.elim e q λes p=>bd (dEs d κ es) λf h=>aa ⟨b9 f,λ_ k=>EV.list (h.ok k),fT rfl⟩) <|
 onN e.ctorIdx 6 (λq=>Expr.Dict.elim e q λks vs p=>ks.casesOn (vs.casesOn (aa ⟨qG,λ_ _=>EV.dict0,fT rfl⟩) λ_ _=>none) λ_ _=>none) <|
 onN e.ctorIdx 20 (λq=>Expr.Attribute.elim e q λa x p=>dAt D d κ a x p) <|
 onN e.ctorIdx 8 (λq=>Expr.ListComp.elim e q λelt gs sc p=>bd (dC D d (dTi D 9 d) κ elt gs sc p) λf h=>aa ⟨f,h.ok,fT rfl⟩) <|
 onN e.ctorIdx 16 (λq=>Expr.Call.elim e q λfn as ks p=>dCl D d κ fn as ks p) none) <| D.xe d (dTi D 9 d) κ e
def dE(D:DX C)(n:Nat):dEt C r:=n.rec (λ_ _=>none) λ_ ih=>dE1 D ih
def SP(C:Cx)(r:Nat)(κ:Kn)(st:jb)(f:SF):Prop:=∀ ⦃env:Env⦄,KE κ env->SV C r env st f
def SsP(C:Cx)(r:Nat)(κ:Kn)(st:ac jb)(f:SF):Prop:=∀ ⦃env:Env⦄,KE κ env->SVs C r env st f
noncomputable abbrev dSt(C:Cx)(r:Nat):=∀ (κ:Kn) (st:jb),ae (Pk SF (SP C r κ st))
theorem KE.ia(k:KE κ env):qh env=af:=by delta qh;rw[k.sk];rfl
def swK(κ:Kn)(x:Str)(a b:Nat)(sc:tu):dj:=ScopeKind.function==ScopeKind.function && κ x==aa .local && a==b && !(sc.names.any fun(n,k)=>n==x && (k== .local || k== .cell))
theorem KE.bk(k:KE κ env):env.blockKind= .function:=by unfold Env.blockKind;refine rwL k.sk ?_;rfl
theorem KE.sw(k:KE κ env):qs (.ListComp elt gs sc q) (aa (.Name x p)) l env=pure (swK κ x p.line q.line sc):=by
 show pure (env.blockKind== .function && env.kindOf x==aa .local && p.line==q.line && !(sc.names.any fun(n,k)=>n==x && (k== .local || k== .cell)))=_
 refine rwL k.bk (rwL k.kd ?_);rfl
theorem aFs{a b:Nat}(h:swK κ x a b sc=ag):κ x=aa .local:=pn (bx.mp (bx.mp (bx.mp h).1).1).2
def isSt(e:Expr):dj:=swappedStores.match_5 (λ_=>dj) e (λ_ _=>ag) λ_=>af
def nms(κ:Kn)(ts:ac Expr):ac Str:=ts.filterMap λx=>swappedStores.match_8 (λ_=>ae Str) x (λid pos=>if κ id==aa .local && pos.line==(ts.head?.map (·.pos.line)).getD 0 then aa id else none) λ_=>none
def w1(ts vs:ac Expr):dj:= !(ts.length==2 || ts.length==3) || vs.length != ts.length || ScopeKind.function != ScopeKind.function
def w2(κ:Kn)(ts:ac Expr):dj:=(nms κ ts).length != ts.length || (nms κ ts).eraseDups.length != (nms κ ts).length
theorem itT{α:Type}{a b:dj}{x y:α}(h:(a || b)=ag)(k:b=ag->y=x):(if a=ag then x else y)=x:=by
 cases a with
 |true=>rfl
 |false=>exact k h
theorem itF{α:Type}{a b:dj}{x y z:α}(h:(a || b)=af)(k:b=af->y=z):(if a=ag then x else y)=z:=by
 cases a with
 |true=>cases h
 |false=>exact k h
theorem KE.s0(k:KE κ env)(h:(w1 ts vs || (vs.any isSt || (w2 κ ts || vs.all (s6 8))))=ag):jo [.Tuple ts n p] (.Tuple vs m q) env=pure none:=by
 cases k.kd
 delta jo
 exact rwL k.bk (itT h λh=>itT h λh=>itT h λh=>aw h)
theorem KE.s1(k:KE κ env)(h:(w1 ts vs || (vs.any isSt || (w2 κ ts || (vs.all (s6 8) || vs.all (constantsAlone 8)))))=af):jo [.Tuple ts n p] (.Tuple vs m q) env=pure (aa (nms κ ts)):=by
 cases k.kd
 delta jo
 exact rwL k.bk (itF h λh=>itF h λh=>itF h λh=>itF h λh=>aq (by exact rwL h Bool.false_ne_true))
def dAg(D:DX C)(d:dEt C r)(κ:Kn)(t e:Expr)(pos:Pos):ae (Pk SF (SP C r κ (.Assign [t] e pos))):=bd (d κ e) λf h=>onF (e.ctorIdx.beq 8) λhl=>bd (dA D d κ 4 t) λg hg=>onF (t.ctorIdx.beq 25 && e.ctorIdx.beq 25) λht=>
 aa ⟨bX f g,λ_ k=>SV.assigns (h.ok k) (ALs.one (hg.ok k) (by rw[hg.st];rfl)) (h.pf.sw hl _ _ _) (hg.s1 _ _ h.pf ht)⟩
def dAn(D:DX C)(d:dEt C r)(κ:Kn)(x:Str)(p:Pos)(e:Expr)(pos:Pos):ae (Pk SF (SP C r κ (.Assign [.Name x p] e pos))):=onB (stK κ x) λhs=>orE
 (onN e.ctorIdx 8 (λq=>Expr.ListComp.elim e q λelt gs sc q=>bd (dC D d (dTi D 9 d) κ elt gs sc q) λf h=>
  aa ⟨bF x f,λ_ k=>(Bool.eq_false_or_eq_true (swK κ x p.line q.line sc)).elim (λhw=>h.as k (by rw[k.kd];exact aFs hw) (by rw[k.sw,hw])) λhw=>SV.assign (h.ok k) (k.s_ hs) (by rw[k.sw,hw])⟩) none) <|
 bd (d κ e) λf h=>onF (e.ctorIdx.beq 8) λhl=>aa ⟨bF x f,λ_ k=>SV.assign (h.ok k) (k.s_ hs) (h.pf.sw hl _ _ _)⟩
def dAt2(D:DX C)(d:dEt C r)(κ:Kn)(ts vs:ac Expr)(n m:Nat)(p q:Pos)(pos:Pos):ae (Pk SF (SP C r κ (.Assign [.Tuple ts n p] (.Tuple vs m q) pos))):=bd (d κ (.Tuple vs m q)) λf h=>orE
 (onB (w1 ts vs || (vs.any isSt || (w2 κ ts || vs.all (s6 8)))) λh1=>bd (dA D d κ 4 (.Tuple ts n p)) λg hg=>aa ⟨bX f g,λenv k=>SV.assigns (h.ok k) (ALs.one (hg.ok k) (by rw[hg.st];rfl)) (h.pf.sw rfl (aa (.Tuple ts n p)) pos.line env) (k.s0 h1)⟩) <|
 onF (w1 ts vs || (vs.any isSt || (w2 κ ts || (vs.all (s6 8) || vs.all (constantsAlone 8))))) λh2=>onB ((nms κ ts).all (stK κ)) λh3=>aa ⟨bO (nms κ ts) f,λenv k=>SV.swap (h.ok k) (h.pf.sw rfl (aa (.Tuple ts n p)) pos.line env) (k.s1 h2) (k.st h3)⟩
structure HP(C:Cx)(r:Nat)(κ:Kn)(ts:ac Expr)(f:AF):Prop where
 ok:∀ ⦃env:Env⦄,KE κ env->ALs C r env ts f
 ne:∀ env,∃ x xs,(eh ts env).map (·.2)=x::xs
def dH(D:DX C)(d:dEt C r)(κ:Kn)(ts:ac Expr):∀ t,ae (Pk AF (HP C r κ (t::ts))):=ts.rec
 (λt=>bd (dA D d κ 4 t) λg h=>aa ⟨g,λ_ k=>ALs.one (h.ok k) (by rw[h.st];rfl),λ_=>by rw[h.st];exact⟨_,_,rfl⟩⟩)
 λt2 ts ih t=>bd (dA D d κ 4 t) λg h=>bd (ih t2) λf hs=>aa ⟨iF g f,λenv k=>ALs.cons (h.ok k) (hs.ok k) (by rw[h.st];rfl) (hs.ne env),λ_=>by rw[h.st];exact⟨_,_,rfl⟩⟩
def dA2(D:DX C)(d:dEt C r)(κ:Kn)(t t2:Expr)(ts:ac Expr)(e:Expr)(pos:Pos):ae (Pk SF (SP C r κ (.Assign (t::t2::ts) e pos))):=bd (d κ e) λf h=>bd (dA D d κ 4 t) λ_ h2=>bd (dH D d κ (t2::ts) t) λg hg=>aa ⟨bX f g,λ_ k=>SV.assigns (h.ok k) (hg.ok k) rfl (h2.s2 _ _ _ _)⟩
def dSs(s:dSt C r)(κ:Kn)(l:ac jb):ae (Pk SF (SsP C r κ l)):=l.rec (aa ⟨sK .next,λ_ _=>SVs.nil⟩) λe es ih=>bd (s κ e) λf h=>bd ih λg hs=>aa ⟨aB f g,λ_ k=>SVs.cons (h k) (hs k)⟩
def dS1(D:DX C)(s:dSt C r):dSt C r:=λκ st=>
 orE (onN st.ctorIdx 5 (λq=>Stmt.Assign.elim st q λts e pos=>ts.casesOn none λt ts=>orE
  (ts.casesOn (onN t.ctorIdx 23 (λq=>Expr.Name.elim t q λx p=>dAn D (dE D 12) κ x p e pos) <| orE
   (onN t.ctorIdx 25 (λq=>Expr.Tuple.elim t q λts n p=>onN e.ctorIdx 25 (λq=>Expr.Tuple.elim e q λvs m q=>dAt2 D (dE D 12) κ ts vs n m p q pos) none) none) <|
   dAg D (dE D 12) κ t e pos) λ_ _=>none) <|
  ts.casesOn none λt2 ts=>dA2 D (dE D 12) κ t t2 ts e pos) <|
 onN st.ctorIdx 24 (λq=>Stmt.Expr.elim st q λe p=>orE
  (onN e.ctorIdx 19 (λq=>Expr.Constant.elim e q λc a b=>onN c.ctorIdx 5 (λq=>Const.str.elim (motive:=λc=>ae (Pk SF (SP C r κ (.Expr (.Constant c a b) p)))) c q λx=>aa ⟨sK .next,λ_ k=>SV.doc k.ia rfl⟩) none) none) <|
  bd (dE D 12 κ e) λf h=>onF (e.ctorIdx.beq 8) λhl=>aa ⟨aZ f,λ_ k=>SV.expr (h.ok k) k.ia (h.pf.sw hl _ _ _)⟩) <|
 onN st.ctorIdx 12 (λq=>Stmt.If.elim st q λt a b p=>bd (dTi D 9 (dE D 12) κ t) λc hc=>bd (dSs s κ b) λg h2=>orE (bd (dSs s κ a) λf h=>aa ⟨sIf c f g,λ_ k=>SV.ite (hc k) (h k) (h2 k)⟩) <| some ⟨sIf c sNo g,λ_ k=>SV.ite (hc k) SVs.no (h2 k)⟩) <|
 onN st.ctorIdx 9 (λq=>Stmt.For.elim st q λt i b o p=>o.casesOn ((dIi D (dE D 12) κ i).rec none λR=>bd (dA D (dE D 12) κ 4 t) λg hg=>bd (dSs s κ b) λf h=>onB (R.b || t.ctorIdx.beq 25) λht=>aa ⟨jV R.K R.fi g f,λ_ k=>SV.for_ (R.ok k) (hg.ok k) (h k) ⟨R.tg _ ht,R.nd⟩ (R.fold _)⟩) λ_ _=>none) <|
 onN st.ctorIdx 3 (λq=>Stmt.Return.elim st q λe p=>e.casesOn (aa ⟨sK (.ret .none),λ_ _=>SV.ret0⟩) λe=>bd (dE D 12 κ e) λf h=>aa ⟨dX f,λ_ k=>SV.ret (h.ok k)⟩) <|
 onN st.ctorIdx 11 (λq=>Stmt.While.elim st q λt b o p=>o.casesOn (bd (dTi D 9 (dE D 12) κ t) λc hc=>bd (dSs s κ b) λf h=>aa ⟨fM c f,λ_ k=>SV.while_ (hc k) (h k)⟩) λ_ _=>none) <|
 onN st.ctorIdx 7 (λq=>Stmt.AugAssign.elim st q λt op e pos=>onN op.ctorIdx 0 (λq=>Operator.Add.elim (motive:=λop=>ae (Pk SF (SP C r κ (.AugAssign t op e pos)))) op q <| onN t.ctorIdx 23 (λq=>Expr.Name.elim t q λx p=>bd (dE D 12 κ e) λf h=>onB (stK κ x) λhs=>onF (x==("__classdict__" :Str)) λhc=>aa ⟨zJ x q8 f,λ_ k=>SV.aug (h.ok k) OpR.iadd (k.s_ hs) hc⟩) none) none) <|
 onN st.ctorIdx 25 (λq=>Stmt.Pass.elim st q λp=>aa ⟨sK .next,λ_ _=>SV.pass⟩) <|
 onN st.ctorIdx 26 (λq=>Stmt.Break.elim st q λp=>aa ⟨sK .brk,λ_ _=>SV.brk⟩) <|
 onN st.ctorIdx 27 (λq=>Stmt.Continue.elim st q λp=>aa ⟨sK .cont,λ_ _=>SV.cont⟩) none) (D.xs (dE D 12) κ st)
def dS(D:DX C)(n:Nat):dSt C r:=n.rec (λ_ _=>none) λ_ ih=>dS1 D ih
theorem dS_ok(D:DX C){st:jb}(k:env.scope.kind= .function)(h:gtO (dS (r:=r) D 9 env.kindOf st)=aa f):SV C r env st f:=tQ h ⟨rfl,k⟩
theorem c9(D:DX C){st:ac jb}(k:env.scope.kind= .function)(h:gtO (dSs (r:=r) (dS D 9) env.kindOf st)=aa f):SVs C r env st f:=tQ h ⟨rfl,k⟩
theorem aEl(D:DX C)(k:env.scope.kind= .function)(h:gtO (dE (r:=r) D 12 env.kindOf e)=aa f):EV C r env e f:=(tQ h).ok ⟨rfl,k⟩
theorem aEk(D:DX C)(k:env.scope.kind= .function)(h:gtO (dTi (r:=r) D 9 (dE D 12) env.kindOf e)=aa f):TV C r env e f:=tQ h ⟨rfl,k⟩
theorem dA_ok(D:DX C)(k:env.scope.kind= .function)(h:gtO (dA (r:=r) D (dE D 12) env.kindOf 4 e)=aa f):AV C r env e f:=(tQ h).ok ⟨rfl,k⟩
def xIfE(d:dEt C r)(t:dTt C r)(κ:Kn)(e:Expr):ae (RE C r κ e):=onN e.ctorIdx 5 (λq=>Expr.IfExp.elim e q λc a b p=>bd (t κ c) λg h0=>bd (d κ a) λf h=>bd (d κ b) λf2 h2=>
 aa ⟨eIf g f f2,λ_ k=>EV.ifExp (h0 k) (h.ok k) (h2.ok k),fT rfl⟩) none
def xMe(d:dEt C r)(κ:Kn)(e:Expr)(k:∀ o m ap as pos f,EP C r κ o f->o.ctorIdx.beq 16=af->(ap.endLine==pos.line)=ag->ae (RE C r κ (.Call (.Attribute o m ap) as [] pos))):ae (RE C r κ e):=onN e.ctorIdx 16 (λq=>Expr.Call.elim e q λfn as ks p=>ks.casesOn (onN fn.ctorIdx 20 (λq=>Expr.Attribute.elim fn q λo m ap=>bd (d κ o) λf h=>onF (o.ctorIdx.beq 16) λhc=>onB (ap.endLine==p.line) λhk=>k o m ap as p f h hc hk) none) λ_ _=>none) none
def xClr(d:dEt C r)(κ:Kn)(e:Expr):ae (RE C r κ e):=xMe d κ e λo m ap as pos f h hc hk=>onS m "clear" (λq=>as.casesOn (aa ⟨oQ f,λ_ k=>by subst q;exact EV.clear (h.ok k) (mshape h.pf hc (es0 (C:=C) (r:=r) (κ:=κ)) rfl hk),pfC⟩) λ_ _=>none) none
def pP(C:Cx)(r:Nat)(κ:Kn)(o:ae Expr)(f:EF):Prop:=∀ ⦃env:Env⦄,KE κ env->PV C r env o f
def dPi(d:dEt C r)(κ:Kn)(o:ae Expr):ae (Pk EF (pP C r κ o)):=o.casesOn (aa ⟨eK .none,λ_ _=>PV.none⟩) λe=>bd (d κ e) λf h=>aa ⟨f,λ_ k=>PV.some (h.ok k)⟩
theorem pfS{a:Expr}:Pf (.Subscript a s p):=fT rfl
def xSl(d:dEt C r)(κ:Kn)(e:Expr):ae (RE C r κ e):=onN e.ctorIdx 21 (λq=>Expr.Subscript.elim e q λa s p=>bd (d κ a) λf h=>onN s.ctorIdx 26 (λq=>Expr.Slice.elim s q λl u st q=>
 bd (dPi d κ l) λf1 h1=>bd (dPi d κ u) λf2 h2=>st.casesOn (motive:=λst=>ae (RE C r κ (.Subscript a (.Slice l u st q) p))) (aa ⟨oP f f1 f2 (eK .none),λ_ k=>EV.slice (h.ok k) (h1 k) (h2 k),pfS⟩) λst=>bd (d κ st) λf3 h3=>aa ⟨oP f f1 f2 f3,λ_ k=>EV.slice3 (h.ok k) (h1 k) (h2 k) (h3.ok k),pfS⟩) none) none
theorem XX.mf(X:XX C)(h:lu)(hk:∀ b o,C.base.heap.get? b=aa o->h.get? b=aa o):sV C.M h:=mfacts X.kc X.km.bases (X.kc.mem.keeps hk)
def ktL:Kti C:=⟨cC C,iL,IV.list,iH.list,λ_=>trivial⟩
def ktR:Kti C:=⟨mF C,iR,IV.range,iH.range,λ_=>trivial⟩
def kt0(e:Expr):Kti C:=(onN e.ctorIdx 23 (λq=>Expr.Name.elim e q λx _=>onS x "inner" (λ_=>aa ktR) none) <| onN e.ctorIdx 16 (λq=>Expr.Call.elim e q λfn _ _ _=>onN fn.ctorIdx 23 (λq=>Expr.Name.elim fn q λx _=>onS x "range" (λ_=>aa ktR) none) none) none).getD ktL
theorem pfN:Pf (.Name x p):=fT rfl
def XX.xn(d:dEt C r)(t:dTt C r)(κ:Kn)(e:Expr):ae (RE C r κ e):=onN e.ctorIdx 16 (λq=>Expr.Call.elim e q λfn as ks p=>ks.casesOn (onN fn.ctorIdx 20 (λq=>Expr.Attribute.elim fn q λo m ap=>onN o.ctorIdx 23 (λq=>Expr.Name.elim o q λy np=>onS y "tuple" (λht=>onS m "__new__" (λhm=>
  onB (glK κ "tuple") λhg=>onB (ap.endLine==p.line) λhk=>onB (as.length.blt 30) λhl=>bd (dEs d κ as) λg hs=>aa ⟨yQ g,λ_ k=>by subst ht hm;exact EV.tnew X.mf X.g_tuple (k.gl hg).1 (hs.ok k) (hs.fl _) (mshape pfN rfl hs hl hk),pfC⟩) none) none) none) none) λ_ _=>none) none
def fn0(x:Str)(cv:CV C r0 v g)(gl:Glo C x v)(n:Nat:=99):Fn C:=⟨x,n,v,r0,g,cv,gl⟩
def me0(x:Str){a:bz}(cv:CV C r0 (.ref a) g)(hm:eT.contains (x,a)=ag)(n:Nat:=99):Mth C:=⟨x,n,a,r0,g,cv,hm⟩
def XX.D2(T:ac (Fn C)):DX C:=⟨X.smc,T,[],kt0,_,X.km,X.g_enumerate,X.sys,X.xn,λ_ _ _=>none,λ_ _ _=>none⟩
def XX.Tb:ac (Fn C):=[fn0 (r0:=0) "len" (CV.lenM X.km) X.g_len,fn0 (r0:=0) "range" CV.range X.g_range,fn0 (r0:=0) "max" CV.max X.g_max,fn0 (r0:=0) "min" CV.min X.g_min,fn0 (r0:=0) "set" CV.set X.g_set]
def aG9(X:XX C):SF:=(sK .next)
def aG8(X:XX C):SF:=(dX (yQ (esC (eN "_cls") (esC (bD (esC (eN "a") (esC (eN "b") (esC (eN "size") esN)))) esN))))
def f_new:SF:=(aB (aG9 X) (aB (aG8 X) (sK .next)))
theorem sv_new(P:bq)(L:bz):SVs C 1 (fh (bJ (o82 P)) L 82) (cU (stB 3 4)) (f_new X):=c9 (X.D2 []) rfl ⋯
def aDz(X:XX C):SF:=(sK .next)
def aDy(X:XX C):SF:=(bF "result" (yQ (esC (eN "cls") (esC (eN "iterable") esN))))
def aDx(X:XX C):SF:=(sIf (tE (aA (aS not) (aK cM (esC (eN "result") esN)) (eK (.int 3)))) sNo (sK .next))
def aDw(X:XX C):SF:=(dX (eN "result"))
def f_make:SF:=(aB (aDz X) (aB (aDy X) (aB (aDx X) (aB (aDw X) (sK .next)))))
theorem aFt(P:bq)(L:bz):SVs C 1 (fh (bJ (o89 P)) L 89) (cU (stB 3 5)) (f_make X):=c9 (X.D2 X.Tb) rfl ⋯
theorem XX.newM(X:XX C):NewM C 2:=by
 intro A s ρ H a b c i j k hr S ra rb rc
 exact i9 X.d_new ⋯ X.b_new (λ_ _=>.nil) (dL ⋯) (λL=>sv_new X X.w.params L) hr S (.cons (.raw _) (.cons ra (.cons rb (.cons rc .nil)))) ⟨rfl,(show _=(3<100/\(V.mat i j k=V.mat i j k/\H=H)) by kernel_rfl).mpr ⟨by decide,rfl,rfl⟩⟩
theorem XX.makeM(X:XX C):o0 C 2:=by
 intro A s ρ H a i j k hr S ra
 exact i9 X.d_make ⋯ X.b_make (λ_ _=>.nil) (dL ⋯) (λL=>aFt X X.w.params L) hr S (.cons (.raw _) (.cons ra .nil)) ⟨rfl,(show _=(V.mat i j k=V.mat i j k/\H=H) by kernel_rfl).mpr ⟨rfl,rfl⟩⟩
theorem XX.cv_Match(X:XX C):CV C 3 (.ref aF) wM:=CV.mat X.kc X.newM
def XX.xm(d:dEt C r)(t:dTt C r)(κ:Kn)(e:Expr):ae (RE C r κ e):=r.casesOn (motive:=λr=>dEt C r->ae (RE C r κ e)) (λ_=>none) (λr d=>onN e.ctorIdx 16 (λq=>Expr.Call.elim e q λfn as ks p=>ks.casesOn (orE
 (onN fn.ctorIdx 20 (λq=>Expr.Attribute.elim fn q λo m ap=>onS m "sort" (λhm=>as.casesOn (bd (d κ o) λf h=>onF (o.ctorIdx.beq 16) λhc=>onB (ap.endLine==p.line) λhk=>
  aa ⟨aEf f,λ_ k=>by subst hm;exact EV.sort X.km (h.ok k) (mshape h.pf hc (es0 (C:=C) (r:=r) (κ:=κ)) rfl hk),pfC⟩) λ_ _=>none) none) none) <|
 onN fn.ctorIdx 23 (λq=>Expr.Name.elim fn q λl p1=>onS l "list" (λhl=>as.casesOn none λa z=>z.casesOn (onN a.ctorIdx 16 (λq=>Expr.Call.elim a q λg bs ks p5=>
  ks.casesOn (onN g.ctorIdx 23 (λq=>Expr.Name.elim g q λm p2=>onS m "map" (λhm=>bs.casesOn none λb z=>z.casesOn none λe z=>z.casesOn (onN b.ctorIdx 20 (λq=>Expr.Attribute.elim b q λo x p4=>onS x "_make" (λhx=>onN o.ctorIdx 23 (λq=>Expr.Name.elim o q λt p3=>onS t "Match" (λht=>
    onB (ble 3 r) λhr=>onB (glK κ "list") λg1=>onB (glK κ "map") λg2=>onB (glK κ "Match") λg3=>bd (d κ e) λf h=>aa ⟨eLM (rP C 2 X.makeM) (λi=>(i,0)) f,λ_ k=>by
     subst hl hm ht hx
     exact EV.listMap X.kc X.makeM (ip hr) (h.ok k) X.g_list X.g_map X.g_Match (k.gl g1).1 (k.gl g2).1 (k.gl g3).1 rfl rfl (h.pf.star _ _) (λ_=>rfl) (λ_=>by show(af || (ky _ (di [e] _)).any (·.1))=af;rw[h.pf.star];rfl) rfl (λ_ _=>rfl),pfC⟩) none) none) none) none) λ_ _=>none) none) none) λ_ _=>none) none) λ_ _=>none) none) none) λ_ _=>none) none) d
def XX.D0(M:ac (Mth C)):DX C:=⟨X.smc,fn0 "Match" X.cv_Match X.g_Match::X.Tb,M,kt0,_,X.km,X.g_enumerate,X.sys,X.xm,λ_ _ _=>none,λ_ _ _=>none⟩
def sL(X:XX C):SF:=(sK .next)
def sJ(X:XX C):SF:=(sIf (tE (aA (oIs id) (eN "a") (eG "a" (eN "self")))) (aB (sK (.ret .none)) (sK .next)) (sK .next))
def sI(X:XX C):SF:=(bX (eN "a") (eP "a" (eN "self")))
def sH(X:XX C):SF:=(bX (eK .none) (iF (eP "matching_blocks" (eN "self")) (eP "opcodes" (eN "self"))))
def nU:SF:=(aB (sL X) (aB (sJ X) (aB (sI X) (aB (sH X) (sK .next)))))
theorem tB(P:bq)(L:bz):SVs C 1 (fh (bJ (o174 P)) L 174) (cU (stB 5 3)) (nU X):=c9 (X.D0 []) rfl ⋯
def dD:CF:=jH ["self","a"] [] (nU X)
theorem u6:CV C 2 (.ref 174) (dD X):=CV.def_ X.d_set_seq1 ⋯ X.b_set_seq1 (λ_ _=>.nil) (dL ⋯) (λL=>tB X X.w.params L)
def XX.M_set_seq1:ac (Mth C):=me0 "set_seq1" (u6 X) rfl::[]
def uU(X:XX C):SF:=(bF "b" (eG "b" (eN "self")))
def uT(X:XX C):SF:=(bX qG (iF (eP "b2j" (eN "self")) (aN "b2j")))
def chB:SF:=aB (bF "indices" (yR (eN "b2j") (eN "elt") (b9 esN))) (aB (aZ (cV (eN "indices") (eN "i"))) (sK .next))
def uS(X:XX C):SF:=(jV (nG C) (iL (eN "b")) (cG 2 (asC (aN "i") (asC (aN "elt") asN))) chB)
def lZ(X:XX C):SF:=(bX (aK cSet esN) (iF (eP "bjunk" (eN "self")) (aN "junk")))
def lY(X:XX C):SF:=(bF "isjunk" (eG "isjunk" (eN "self")))
def lX(X:XX C):SF:=(sIf (tE (eN "isjunk")) sNo (sK .next))
def lW(X:XX C):SF:=(bX (aK cSet esN) (iF (eP "bpopular" (eN "self")) (aN "popular")))
def lV(X:XX C):SF:=(bF "n" (aK cM (esC (eN "b") esN)))
def lU(X:XX C):SF:=(sIf (aX (tE (eG "autojunk" (eN "self"))) (aX (tE (aA oGe (eN "n") (eK (.int 200)))) (tK ag))) sNo (sK .next))
def yY:SF:=aB (lZ X) (aB (lY X) (aB (lX X) (aB (lW X) (aB (lV X) (aB (lU X) (sK .next))))))
def qE:SF:=(aB (uU X) (aB (uT X) (aB (uS X) (yY X))))
theorem vI(P:bq)(L:bz):SVs C 1 (fh (bJ (o188 P)) L 188) (cU (stB 5 5)) (qE X):=c9 (X.D0 X.M_set_seq1) rfl ⋯
def cA:CF:=jH ["self"] [] (qE X)
theorem wH:CV C 2 (.ref 188) (cA X):=CV.def_ X.d_chain_b ⋯ X.b_chain_b (λ_ _=>.nil) (dL ⋯) (λL=>vI X X.w.params L)
def XX.M_chain_b:ac (Mth C):=me0 "_SequenceMatcher__chain_b" (wH X) rfl::X.M_set_seq1
def sG(X:XX C):SF:=(sK .next)
def sF(X:XX C):SF:=(sIf (tE (aA (oIs id) (eN "b") (eG "b" (eN "self")))) (aB (sK (.ret .none)) (sK .next)) (sK .next))
def sE(X:XX C):SF:=(bX (eN "b") (eP "b" (eN "self")))
def sD:SF:=(sH X)
def sC(X:XX C):SF:=(bX (eK .none) (eP "fullbcount" (eN "self")))
def sB:SF:=(aZ (cS (cA X) (eN "self") esN))
def nQ:SF:=(aB (sG X) (aB (sF X) (aB (sE X) (aB (sD X) (aB (sC X) (aB (sB X) (sK .next)))))))
theorem tA(P:bq)(L:bz):SVs C 2 (fh (bJ (o181 P)) L 181) (cU (stB 5 4)) (nQ X):=c9 (X.D0 X.M_chain_b) rfl ⋯
def dB:CF:=jH ["self","b"] [] (nQ X)
theorem u0:CV C 3 (.ref 181) (dB X):=CV.def_ X.d_set_seq2 ⋯ X.b_set_seq2 (λ_ _=>.nil) (dL ⋯) (λL=>tA X X.w.params L)
def XX.M_set_seq2:ac (Mth C):=me0 "set_seq2" (u0 X) rfl::X.M_chain_b
def sA(X:XX C):SF:=(sK .next)
def r9:SF:=(aZ (cS (dD X) (eN "self") (esC (eN "a") esN)))
def r8:SF:=(aZ (cS (dB X) (eN "self") (esC (eN "b") esN)))
def nO:SF:=(aB (sA X) (aB (r9 X) (aB (r8 X) (sK .next))))
theorem s9(P:bq)(L:bz):SVs C 3 (fh (bJ (o167 P)) L 167) (cU (stB 5 2)) (nO X):=c9 (X.D0 X.M_set_seq2) rfl ⋯
def bL:CF:=jH ["self","a","b"] [] (nO X)
theorem l4:CV C 4 (.ref 167) (bL X):=CV.def_ X.d_set_seqs ⋯ X.b_set_seqs (λ_ _=>.nil) (dL ⋯) (λL=>s9 X X.w.params L)
def XX.M_set_seqs:ac (Mth C):=me0 "set_seqs" (l4 X) rfl::X.M_set_seq2
def iA(X:XX C):SF:=(sK .next)
def cR(X:XX C):SF:=(bX (bD (esC (eG "a" (eN "self")) (esC (eG "b" (eN "self")) (esC (eG "b2j" (eN "self")) (esC (eBd .scon okS (eG "bjunk" (eN "self"))) esN))))) (cG 4 (asC (aN "a") (asC (aN "b") (asC (aN "b2j") (asC (aN "isbjunk") asN))))))
def eE(X:XX C):SF:=(sIf (tE (aA (oIs id) (eN "ahi") (eK .none))) (aB (bF "ahi" (aK cM (esC (eN "a") esN))) (sK .next)) (sK .next))
def eD(X:XX C):SF:=(sIf (tE (aA (oIs id) (eN "bhi") (eK .none))) (aB (bF "bhi" (aK cM (esC (eN "b") esN))) (sK .next)) (sK .next))
def eB(X:XX C):SF:=(bO ["besti","bestj","bestsize"] (bD (esC (eN "alo") (esC (eN "blo") (esC (eK (.int 0)) esN)))))
def eA(X:XX C):SF:=(bF "j2len" qG)
def d9(X:XX C):SF:=(bF "nothing" (b9 esN))
def aEu:SF:=aB (sIf (tE (aA oGt (eN "k") (eN "bestsize"))) (aB (bO ["besti","bestj","bestsize"] (bD (esC (aA aL (aA b5 (eN "i") (eN "k")) (eK (.int 1))) (esC (aA aL (aA b5 (eN "j") (eN "k")) (eK (.int 1))) (esC (eN "k") esN))))) (sK .next)) (sK .next)) (sK .next)
def colB3:SF:=aB (bX (aA aL (eCv (eN "j2lenget") (esC (aA b5 (eN "j") (eK (.int 1))) (esC (eK (.int 0)) esN))) (eK (.int 1))) (iF (aN "k") (fY (eN "newj2len") (eN "j")))) aEu
def sP:SF:=aB (sIf (tE (aA oLt (eN "j") (eN "blo"))) (aB (sK .cont) (sK .next)) (sK .next)) (aB (sIf (tE (aA oGe (eN "j") (eN "bhi"))) (aB (sK .brk) (sK .next)) (sK .next)) colB3)
def d8(X:XX C):SF:=(jV (mF C) (iR (aK dF (esC (eN "alo") (esC (eN "ahi") esN)))) (aN "i") (aB (bF "j2lenget" (eBd .dget okD (eN "j2len"))) (aB (bF "newj2len" qG) (aB (jV (cC C) (iL (eGet (eN "b2j") (aA aO (eN "a") (eN "i")) (eN "nothing"))) (aN "j") sP) (aB (bF "j2len" (eN "newj2len")) (sK .next))))))
def d7(X:XX C):SF:=(fM (aX (tE (aA oGt (eN "besti") (eN "alo"))) (aX (tE (aA oGt (eN "bestj") (eN "blo"))) (aX (mD (tE (eCv (eN "isbjunk") (esC (aA aO (eN "b") (aA b5 (eN "bestj") (eK (.int 1)))) esN)))) (aX (tE (aA (aS id) (aA aO (eN "a") (aA b5 (eN "besti") (eK (.int 1)))) (aA aO (eN "b") (aA b5 (eN "bestj") (eK (.int 1)))))) (tK ag))))) (aB (bO ["besti","bestj","bestsize"] (bD (esC (aA b5 (eN "besti") (eK (.int 1))) (esC (aA b5 (eN "bestj") (eK (.int 1))) (esC (aA aL (eN "bestsize") (eK (.int 1))) esN))))) (sK .next)))
def d6(X:XX C):SF:=(fM (aX (tE (aA oLt (aA aL (eN "besti") (eN "bestsize")) (eN "ahi"))) (aX (tE (aA oLt (aA aL (eN "bestj") (eN "bestsize")) (eN "bhi"))) (aX (mD (tE (eCv (eN "isbjunk") (esC (aA aO (eN "b") (aA aL (eN "bestj") (eN "bestsize"))) esN)))) (aX (tE (aA (aS id) (aA aO (eN "a") (aA aL (eN "besti") (eN "bestsize"))) (aA aO (eN "b") (aA aL (eN "bestj") (eN "bestsize"))))) (tK ag))))) (aB (zJ "bestsize" q8 (eK (.int 1))) (sK .next)))
def dW(X:XX C):SF:=(fM (aX (tE (aA oGt (eN "besti") (eN "alo"))) (aX (tE (aA oGt (eN "bestj") (eN "blo"))) (aX (tE (eCv (eN "isbjunk") (esC (aA aO (eN "b") (aA b5 (eN "bestj") (eK (.int 1)))) esN))) (aX (tE (aA (aS id) (aA aO (eN "a") (aA b5 (eN "besti") (eK (.int 1)))) (aA aO (eN "b") (aA b5 (eN "bestj") (eK (.int 1)))))) (tK ag))))) (aB (bO ["besti","bestj","bestsize"] (bD (esC (aA b5 (eN "besti") (eK (.int 1))) (esC (aA b5 (eN "bestj") (eK (.int 1))) (esC (aA aL (eN "bestsize") (eK (.int 1))) esN))))) (sK .next)))
def dV(X:XX C):SF:=(fM (aX (tE (aA oLt (aA aL (eN "besti") (eN "bestsize")) (eN "ahi"))) (aX (tE (aA oLt (aA aL (eN "bestj") (eN "bestsize")) (eN "bhi"))) (aX (tE (eCv (eN "isbjunk") (esC (aA aO (eN "b") (aA aL (eN "bestj") (eN "bestsize"))) esN))) (aX (tE (aA (aS id) (aA aO (eN "a") (aA aL (eN "besti") (eN "bestsize"))) (aA aO (eN "b") (aA aL (eN "bestj") (eN "bestsize"))))) (tK ag))))) (aB (bF "bestsize" (aA aL (eN "bestsize") (eK (.int 1)))) (sK .next)))
def g8(X:XX C):SF:=(dX (aK wM (esC (eN "besti") (esC (eN "bestj") (esC (eN "bestsize") esN)))))
def c8:SF:=(aB (iA X) (aB (cR X) (aB (eE X) (aB (eD X) (aB (eB X) (aB (eA X) (aB (d9 X) (aB (d8 X) (aB (d7 X) (aB (d6 X) (aB (dW X) (aB (dV X) (aB (g8 X) (sK .next))))))))))))))
theorem iS(P:bq)(L:bz):SVs C 3 (fh (bJ (o196 P)) L 196) (cU (stB 5 6)) (c8 X):=c9 (X.D0 X.M_set_seqs) rfl ⋯
def bQ:CF:=jH ["self","alo","ahi","blo","bhi"] [] (c8 X)
theorem iT:CV C 4 (.ref 196) (bQ X):=CV.def_ X.d_find_longest_match ⋯ X.b_find_longest_match (λ_ _=>.nil) (dL ⋯) (λL=>iS X X.w.params L)
def XX.M_find_longest_match:ac (Mth C):=me0 "find_longest_match" (iT X) rfl::X.M_set_seqs
def gZ(X:XX C):SF:=(sK .next)
def cD(X:XX C):SF:=(dX (eG "matching_blocks" (eN "self")))
def gY:SF:=(sIf (tE (aA (oIs not) (eG "matching_blocks" (eN "self")) (eK .none))) (aB (cD X) (sK .next)) (sK .next))
def dU(X:XX C):SF:=(bO ["la","lb"] (bD (esC (aK cM (esC (eG "a" (eN "self")) esN)) (esC (aK cM (esC (eG "b" (eN "self")) esN)) esN))))
def bU(X:XX C):SF:=(bF "queue" (b9 (esC (bD (esC (eK (.int 0)) (esC (eN "la") (esC (eK (.int 0)) (esC (eN "lb") esN))))) esN)))
def bT(X:XX C):SF:=(bF "matching_blocks" (b9 esN))
def gP2:SF:=aB (aZ (cV (eN "queue") (bD (esC (aA aL (eN "i") (eN "k")) (esC (eN "ahi") (esC (aA aL (eN "j") (eN "k")) (esC (eN "bhi") esN))))))) (sK .next)
def gJ:SF:=aB (sIf (aX (tE (aA oLt (aA aL (eN "i") (eN "k")) (eN "ahi"))) (aX (tE (aA oLt (aA aL (eN "j") (eN "k")) (eN "bhi"))) (tK ag))) gP2 (sK .next)) (sK .next)
def gP1:SF:=aB (aZ (cV (eN "queue") (bD (esC (eN "alo") (esC (eN "i") (esC (eN "blo") (esC (eN "j") esN))))))) (sK .next)
def gH:SF:=aB (sIf (aX (tE (aA oLt (eN "alo") (eN "i"))) (aX (tE (aA oLt (eN "blo") (eN "j"))) (tK ag))) gP1 (sK .next)) gJ
def gA:SF:=aB (aZ (cV (eN "matching_blocks") (eN "x"))) gH
def gI(X:XX C):SF:=aB (sIf (tE (eN "k")) gA (sK .next)) (sK .next)
def gF:SF:=aB (bX (cS (bQ X) (eN "self") (esC (eN "alo") (esC (eN "ahi") (esC (eN "blo") (esC (eN "bhi") esN))))) (iF (cG 3 (asC (aN "i") (asC (aN "j") (asC (aN "k") asN)))) (aN "x"))) (gI X)
def gB:SF:=aB (bX (ePop (eN "queue")) (cG 4 (asC (aN "alo") (asC (aN "ahi") (asC (aN "blo") (asC (aN "bhi") asN)))))) (gF X)
def bS:SF:=(fM (tE (eN "queue")) (gB X))
def dT(X:XX C):SF:=(aZ (aEf (eN "matching_blocks")))
def dR(X:XX C):SF:=(bX (eK (.int 0)) (iF (aN "i1") (iF (aN "j1") (aN "k1"))))
def dQ(X:XX C):SF:=(bF "non_adjacent" (b9 esN))
def nP:SF:=aB (aZ (cV (eN "non_adjacent") (bD (esC (eN "i1") (esC (eN "j1") (esC (eN "k1") esN)))))) (sK .next)
def cF(X:XX C):SF:=(sIf (tE (eN "k1")) nP (sK .next))
def nS:SF:=aB (bO ["i1","j1","k1"] (bD (esC (eN "i2") (esC (eN "j2") (esC (eN "k2") esN))))) (sK .next)
def cK:SF:=(jV (cC C) (iL (eN "matching_blocks")) (cG 3 (asC (aN "i2") (asC (aN "j2") (asC (aN "k2") asN)))) (aB (sIf (aX (tE (aA (aS id) (aA aL (eN "i1") (eN "k1")) (eN "i2"))) (aX (tE (aA (aS id) (aA aL (eN "j1") (eN "k1")) (eN "j2"))) (tK ag))) (aB (zJ "k1" q8 (eN "k2")) (sK .next)) (aB (cF X) nS)) (sK .next)))
def bM(X:XX C):SF:=(aZ (cV (eN "non_adjacent") (bD (esC (eN "la") (esC (eN "lb") (esC (eK (.int 0)) esN))))))
def cE:SF:=(bX (eLM (rP C 2 X.makeM) (λi=>(i,0)) (eN "non_adjacent")) (eP "matching_blocks" (eN "self")))
def gR12:SF:=aB (cE X) (aB (cD X) (sK .next))
def gR6:SF:=aB (dT X) (aB (dR X) (aB (dQ X) (aB (cK X) (aB (cF X) (aB (bM X) (gR12 X))))))
def gR2:SF:=aB (dU X) (aB (bU X) (aB (bT X) (aB (bS X) (gR6 X))))
def eO:SF:=(aB (gZ X) (aB (gY X) (gR2 X)))
theorem hJ(P:bq)(L:bz):SVs C 4 (fh (bJ (o203 P)) L 203) (cU (stB 5 7)) (eO X):=c9 (X.D0 X.M_find_longest_match) rfl ⋯
def bK:CF:=jH ["self"] [] (eO X)
theorem eI:CV C 5 (.ref 203) (bK X):=CV.def_ X.d_get_matching_blocks ⋯ X.b_get_matching_blocks (λ_ _=>.nil) (dL ⋯) (λL=>hJ X X.w.params L)
def XX.M_get_matching_blocks:ac (Mth C):=me0 "get_matching_blocks" (eI X) rfl::X.M_find_longest_match
def mI(X:XX C):SF:=(sK .next)
def mH(X:XX C):SF:=(sIf (tE (aA (oIs not) (eG "opcodes" (eN "self")) (eK .none))) (aB (dX (eG "opcodes" (eN "self"))) (sK .next)) (sK .next))
def iP(X:XX C):SF:=(bX (eK (.int 0)) (iF (aN "i") (aN "j")))
def iO(X:XX C):SF:=(bX (b9 esN) (iF (eP "opcodes" (eN "self")) (aN "answer")))
def oP2:SF:=aB (aZ (cV (eN "answer") (bD (esC (eK (.str "equal")) (esC (eN "ai") (esC (eN "i") (esC (eN "bj") (esC (eN "j") esN)))))))) (sK .next)
def oP1:SF:=aB (aZ (cV (eN "answer") (bD (esC (eN "tag") (esC (eN "i") (esC (eN "ai") (esC (eN "j") (esC (eN "bj") esN)))))))) (sK .next)
def oR3:SF:=aB (sIf (tE (eN "size")) oP2 (sK .next)) (sK .next)
def oR2:SF:=aB (bO ["i","j"] (bD (esC (aA aL (eN "ai") (eN "size")) (esC (aA aL (eN "bj") (eN "size")) esN)))) oR3
def oR:SF:=aB (sIf (tE (eN "tag")) oP1 (sK .next)) oR2
def iN:SF:=(jV (cC C) (iL (cS (bK X) (eN "self") esN)) (cG 3 (asC (aN "ai") (asC (aN "bj") (asC (aN "size") asN)))) (aB (bF "tag" (eK (.str ""))) (aB (sIf (aX (tE (aA oLt (eN "i") (eN "ai"))) (aX (tE (aA oLt (eN "j") (eN "bj"))) (tK ag))) (aB (bF "tag" (eK (.str "replace"))) (sK .next)) (aB (sIf (tE (aA oLt (eN "i") (eN "ai"))) (aB (bF "tag" (eK (.str "delete"))) (sK .next)) (aB (sIf (tE (aA oLt (eN "j") (eN "bj"))) (aB (bF "tag" (eK (.str "insert"))) (sK .next)) (sK .next)) (sK .next))) (sK .next))) oR)))
def iM(X:XX C):SF:=(dX (eN "answer"))
def jR:SF:=(aB (mI X) (aB (mH X) (aB (iP X) (aB (iO X) (aB (iN X) (aB (iM X) (sK .next)))))))
theorem mW(P:bq)(L:bz):SVs C 5 (fh (bJ (o210 P)) L 210) (cU (stB 5 8)) (jR X):=c9 (X.D0 X.M_get_matching_blocks) rfl ⋯
def aU:CF:=jH ["self"] [] (jR X)
theorem jA:CV C 6 (.ref 210) (aU X):=CV.def_ X.d_get_opcodes ⋯ X.b_get_opcodes (λ_ _=>.nil) (dL ⋯) (λL=>mW X X.w.params L)
def XX.M_get_opcodes:ac (Mth C):=me0 "get_opcodes" (jA X) rfl::X.M_get_matching_blocks
def aD5(X:XX C):SF:=(sK .next)
def aD4(X:XX C):SF:=(bX (eN "isjunk") (eP "isjunk" (eN "self")))
def aD3(X:XX C):SF:=(bX (eK .none) (iF (eP "a" (eN "self")) (eP "b" (eN "self"))))
def aD2(X:XX C):SF:=(bX (eN "autojunk") (eP "autojunk" (eN "self")))
def aD1:SF:=(aZ (cS (bL X) (eN "self") (esC (eN "a") (esC (eN "b") esN))))
def wB:SF:=(aB (aD5 X) (aB (aD4 X) (aB (aD3 X) (aB (aD2 X) (aB (aD1 X) (sK .next))))))
theorem w3(P:bq)(L:bz):SVs C 4 (fh (bJ (zO P)) L 160) (cU (stB 5 1)) (wB X):=c9 (X.D0 X.M_get_opcodes) rfl ⋯
def aEz:CF:=jH ["self","isjunk","a","b","autojunk"] [.bool ag] (wB X)
def sR:CF:=jH ["self","isjunk","a","b","autojunk"] [] (wB X)
theorem XX.cc_init:CC C 5 (.ref 160) (aEz X):=λhr S hu e=>i9 X.d_init ⋯ X.b_init1 (λ_ _=>.cons (.bool ag) .nil) (dL ⋯) (λL=>w3 X X.w.params L) hr S hu e
theorem XX.cc_init4:CC C 5 (.ref 160) (sR X):=λhr S hu e=>i9 X.d_init ⋯ X.b_init (λ_ _=>.nil) (dL ⋯) (λL=>w3 X X.w.params L) hr S hu e
def XX.c_SM:CF:=cNew (aEz X)
def XX.c_SM4:CF:=cNew (sR X)
theorem XX.cv_SM:CV C 6 (.ref dY) X.c_SM:=CV.sm X.kc X.cc_init
theorem XX.cv_SM4:CV C 6 (.ref dY) X.c_SM4:=CV.sm X.kc X.cc_init4
def yC(X:XX C):SF:=(sK .next)
def yB:SF:=(bF "codes" (cS (aU X) (eN "self") esN))
def mP(X:XX C):SF:=(sIf (mD (tE (eN "codes"))) (aB (bF "codes" (b9 (esC (bD (esC (eK (.str "equal")) (esC (eK (.int 0)) (esC (eK (.int 1)) (esC (eK (.int 0)) (esC (eK (.int 1)) esN)))))) esN))) (sK .next)) (sK .next))
def mO(X:XX C):SF:=(sIf (tE (aA (aS id) (aA aO (aA aO (eN "codes") (eK (.int 0))) (eK (.int 0))) (eK (.str "equal")))) (aB (bX (aA aO (eN "codes") (eK (.int 0))) (cG 5 (asC (aN "tag") (asC (aN "i1") (asC (aN "i2") (asC (aN "j1") (asC (aN "j2") asN))))))) (aB (bX (bD (esC (eN "tag") (esC (aK wL (esC (eN "i1") (esC (aA b5 (eN "i2") (eN "n")) esN))) (esC (eN "i2") (esC (aK wL (esC (eN "j1") (esC (aA b5 (eN "j2") (eN "n")) esN))) (esC (eN "j2") esN)))))) (fY (eN "codes") (eK (.int 0)))) (sK .next))) (sK .next))
def mM(X:XX C):SF:=(sIf (tE (aA (aS id) (aA aO (aA aO (eN "codes") (gQ (eK (.int 1)))) (eK (.int 0))) (eK (.str "equal")))) (aB (bX (aA aO (eN "codes") (gQ (eK (.int 1)))) (cG 5 (asC (aN "tag") (asC (aN "i1") (asC (aN "i2") (asC (aN "j1") (asC (aN "j2") asN))))))) (aB (bX (bD (esC (eN "tag") (esC (eN "i1") (esC (aK lJ (esC (eN "i2") (esC (aA aL (eN "i1") (eN "n")) esN))) (esC (eN "j1") (esC (aK lJ (esC (eN "j2") (esC (aA aL (eN "j1") (eN "n")) esN))) esN)))))) (fY (eN "codes") (gQ (eK (.int 1))))) (sK .next))) (sK .next))
def rZ(X:XX C):SF:=(bF "nn" (aA aL (eN "n") (eN "n")))
def rY(X:XX C):SF:=(bF "group" (b9 esN))
def gR3:SF:=aB (mO X) (aB (mM X) (aB (rZ X) (aB (rY X) (sK .next))))
def aDp:SF:=(aB (yC X) (aB (yB X) (aB (mP X) (gR3 X))))
theorem gv_pre(P:bq)(L:bz):SVs C 6 ((gsh P).envL L) (gsh P).pre (aDp X):=c9 (X.D0 X.M_get_opcodes) rfl ⋯
def g_it(X:XX C):EF:=(eN "codes")
theorem gv_it(P:bq)(L:bz):EV C 6 ((gsh P).envL L) (gsh P).iter (g_it X):=aEl (X.D0 X.M_get_opcodes) rfl ⋯
def aDo(X:XX C):AF:=(cG 5 (asC (aN "tag") (asC (aN "i1") (asC (aN "i2") (asC (aN "j1") (asC (aN "j2") asN))))))
theorem gv_tgt(P:bq)(L:bz):AV C 6 ((gsh P).envL L) (gsh P).target (aDo X):=dA_ok (X.D0 X.M_get_opcodes) rfl ⋯
def g_fc(X:XX C):TF:=(aX (tE (aA (aS id) (eN "tag") (eK (.str "equal")))) (aX (tE (aA oGt (aA b5 (eN "i2") (eN "i1")) (eN "nn"))) (tK ag)))
theorem gv_fc(P:bq)(L:bz):TV C 6 ((gsh P).envL L) (gsh P).cond (g_fc X):=aEk (X.D0 X.M_get_opcodes) rfl ⋯
def g_f1(X:XX C):SF:=(aZ (cV (eN "group") (bD (esC (eN "tag") (esC (eN "i1") (esC (aK lJ (esC (eN "i2") (esC (aA aL (eN "i1") (eN "n")) esN))) (esC (eN "j1") (esC (aK lJ (esC (eN "j2") (esC (aA aL (eN "j1") (eN "n")) esN))) esN))))))))
theorem gv_f1(P:bq)(L:bz):SV C 6 ((gsh P).envL L) (gsh P).s1 (g_f1 X):=dS_ok (X.D0 X.M_get_opcodes) rfl ⋯
def g_fy(X:XX C):EF:=(eN "group")
theorem gv_fy(P:bq)(L:bz):EV C 6 ((gsh P).envL L) (gsh P).ye (g_fy X):=aEl (X.D0 X.M_get_opcodes) rfl ⋯
def g_f2(X:XX C):SF:=(aB (bF "group" (b9 esN)) (aB (bO ["i1","j1"] (bD (esC (aK wL (esC (eN "i1") (esC (aA b5 (eN "i2") (eN "n")) esN))) (esC (aK wL (esC (eN "j1") (esC (aA b5 (eN "j2") (eN "n")) esN))) esN)))) (sK .next)))
theorem gv_f2(P:bq)(L:bz):SVs C 6 ((gsh P).envL L) (gsh P).s2 (g_f2 X):=c9 (X.D0 X.M_get_opcodes) rfl ⋯
def g_f3(X:XX C):SF:=(aZ (cV (eN "group") (bD (esC (eN "tag") (esC (eN "i1") (esC (eN "i2") (esC (eN "j1") (esC (eN "j2") esN))))))))
theorem gv_f3(P:bq)(L:bz):SV C 6 ((gsh P).envL L) (gsh P).s3 (g_f3 X):=dS_ok (X.D0 X.M_get_opcodes) rfl ⋯
def yD(X:XX C):TF:=(aX (tE (eN "group")) (aX (mD (aX (tE (aA (aS id) (aK cM (esC (eN "group") esN)) (eK (.int 1)))) (aX (tE (aA (aS id) (aA aO (aA aO (eN "group") (eK (.int 0))) (eK (.int 0))) (eK (.str "equal")))) (tK ag)))) (tK ag)))
theorem gv_fc2(P:bq)(L:bz):TV C 6 ((gsh P).envL L) (gsh P).cond2 (yD X):=aEk (X.D0 X.M_get_opcodes) rfl ⋯
def g_fy2(X:XX C):EF:=(eN "group")
theorem gv_fy2(P:bq)(L:bz):EV C 6 ((gsh P).envL L) (gsh P).ye2 (g_fy2 X):=aEl (X.D0 X.M_get_opcodes) rfl ⋯
def gfn:GFn:= {pre:=aDp X,it:=g_it X,tgt:=aDo X,fc:=g_fc X,f1:=g_f1 X,fy:=g_fy X,f2:=g_f2 X,f3:=g_f3 X,fc2:=yD X,fy2:=g_fy2 X}
theorem XX.gv(X:XX C)(L:bz):GV C 6 (gsh X.w.params) (gfn X) ((gsh X.w.params).envL L) where
 pre:=gv_pre X X.w.params L
 it:=gv_it X X.w.params L
 tgt:=gv_tgt X X.w.params L
 fc:=gv_fc X X.w.params L
 f1:=gv_f1 X X.w.params L
 fy:=gv_fy X X.w.params L
 f2:=gv_f2 X X.w.params L
 f3:=gv_f3 X X.w.params L
 fc2:=gv_fc2 X X.w.params L
 fy2:=gv_fy2 X X.w.params L
 hs:=λ_=>rfl
 co:=rfl
 ia:=rfl
theorem XX.dG:Def C (gsh X.w.params).fa (gsh X.w.params).fd (gsh X.w.params).body:=(aDj (bJ (tV X.w.params))).symm▸X.d_get_grouped_opcodes
def b6(X:XX C):CF:=cGen ["self","n"] []
def bY(X:XX C):CF:=cGen ["self","n"] [.int 3]
theorem iC:CV C 7 (.ref 218) (b6 X):=CV.gen X.gc X.dG ⋯ X.b_get_grouped_opcodes (λ_ _=>.nil) (aCb ⋯)
theorem g9:CV C 7 (.ref 218) (bY X):=CV.gen X.gc X.dG ⋯ X.b_get_grouped_opcodes1 (λ_ _=>.cons (.int 3 534) .nil) (aCb ⋯)
def XX.ktg:Kti C:=⟨eR X.gc 6 X.gv,iG,IV.gen X.gc X.gv,iH.gen X.gc X.gv,λ_=>trivial⟩
def XX.ktl(e:Expr):Kti C:=(onN e.ctorIdx 16 (λq=>Expr.Call.elim e q λfn _ _ _=>onN fn.ctorIdx 20 (λq=>Expr.Attribute.elim fn q λ_ x _=>onS x "get_grouped_opcodes" (λ_=>aa X.ktg) none) none) none).getD (kt0 e)
def XX.T1:ac (Fn C):=fn0 "list" (CV.listG X.gc X.gv (r:=8) (ce 8)) X.g_list::fn0 "SequenceMatcher" X.cv_SM X.g_SequenceMatcher 3::fn0 "SequenceMatcher" X.cv_SM4 X.g_SequenceMatcher 4::X.Tb
def XX.M1:ac (Mth C):=[me0 "get_grouped_opcodes" (iC X) rfl 1,me0 "get_grouped_opcodes" (g9 X) rfl 0,me0 "get_opcodes" (jA X) rfl,me0 "get_matching_blocks" (eI X) rfl]
def tI(g:OpF)(f1 f2 f:EF):SF:=λlo H Q=>f1 lo H λa H1=>f2 lo H1 λb H2=>Lp (aO a b H2) λw H3=>f lo H3 λc H4=>Lp (g w c H4) λv H5=>Lf (tU a b v H5) λH6=>Q .next lo H6
theorem SV.augI{pos'}{pos}(h1:EV C r env o f1)(h2:EV C r env i f2)(h:EV C r env e f)(ho:OpR C r (inplaceOp op) g)(ha:∀ ov iv new,augStore i ov iv new=(do sj [new,ov,iv] (wg ov iv new);release [new,ov,iv] [];pure .next)):SV C r env (.AugAssign (.Subscript o i pos') op e pos) (tI g f1 f2 f):=λ_ _ _ _ _ _ hr S F q=>wpAny_AugAssign_Subscript_any (h1.run hr S F q λS1 N1 r1 q=>h2.run hr S1 (F.nx N1) q λS2 N2 r2 q=>q.elim λp e q=>by
  obtain⟨hH,z,rz,hz,_⟩:=nM S2 (r1.nx N2) r2 e
  have F2:=(F.nx N1).nx N2
  refine hz _ (h.run hr S2 F2 (hH▸q) λS4 N4 r4 q=>bR.run (ho hr S4 (rz.nx N4) r4 q) λS5 N5 r5 q=>q.elim λH6 e6 q=>(m2 S5 (((r1.nx N2).nx N4).nx N5) ((r2.nx N4).nx N5) r5 e6 λs' S6 N6=>⟨S6,(((N1.trans N2).trans N4).trans N5).wr.trans (N6 _),((F2.nx N4).nx N5).nx (N6 _),.next,q⟩))) ha
def y0(g:GFn):CF:=λvs H Q=>match vs with
 | [.ref gi,d]=>g.nx gi H λo H'=>Q (o.getD d) H'
 |_=>fe
theorem CV.next(hG:GCx C G)(VV:∀ L,GV C r0 G g (G.envL L))(hnd:r0+2<=r):CV C (r+1) (.builtin "next") (y0 g):=by
 refine⟨cB,?_⟩
 intro A s ρ H us vs Q hr S rs e
 unfold y0 at e
 split at e
 ·rename_i gi d
  cases rs with
  |cons r1 rs=>cases rs with
   |cons r2 rs=>cases rs with
    |nil=>
     refine xEA r1.inv λl z gl=>?_;subst z
     refine xE (tW e) λgn hH=>xE (i6 hG S gl hH) λk hk=>vo (by decide+kernel) (by decide+kernel) kdk_entry_next (kdk_args_next2 _ _) (zzB (ja (by first |rfl |kernel_rfl!) ?_))
     dsimp only
     refine zzB (ma hk.typeIs vu.lookup (wpAny_ite_split (λhab=>ba hab (by decide)) (λ_=>?_)))
     have hr':Room (r0+2) A.in1:=by
      refine xAA hr λh1 h2 h3=>⟨h1,(Y1 hnd h2:A.depth+10*(r0+2)<=700),?_⟩
      ·exact(Y0 hnd h3:A.units+1+40*(r0+2)<=8000)
     refine zzB (wmN (uJ hG VV hr' S gl e) λo s' p=>?_)
     cases p with
     |item S' N' r' hg q=>exact zzP ⟨_,rfl,S',N',r',q⟩
     |done S' N' q=>exact zzP ⟨_,rfl,S',N',r2.nx N',q⟩
 ·exact e.elim
def cAbs:CF:=λvs H Q=>match vs with
 | [.int a]=>Q (.int (if a<0 then-a else a)) H
 |_=>fe
theorem CV.abs:CV C r (.builtin "abs") cAbs:=by
 refine⟨cB,?_⟩
 intro A s ρ H us vs Q hr S rs e
 unfold cAbs at e
 split at e
 ·cases rs with
  |cons r1 rs=>cases rs with
   |nil=>
    refine xE r1.inv λt z=>rwL z ?_
    exact call_abs_int λu tk=>EPo.post (.ext (h':=s.heap) S (λb o e=>e) (.int _ _)) e
 ·exact e.elim
theorem aGk(al:EsP C r κ as f)(hl:as.length.blt 30=ag)(hk:(ap.endLine==pos.line)=ag):eZ env (.Call (.Name "SequenceMatcher" np) as2 ks2 p2) x ap pos as:=⟨by cases as2<;>cases ks2<;>rfl,by rw[al.al];exact ao (ip hl),hk⟩
def xMc(smc:SMC C)(M:ac (Mth C))(d:dEt C r)(κ:Kn)(e:Expr):ae (RE C r κ e):=onN e.ctorIdx 16 (λq=>Expr.Call.elim (motive_1:=λe=>ae (RE C r κ e)) e q λfn as ks p=>ks.casesOn (onN fn.ctorIdx 20 (λq=>Expr.Attribute.elim (motive_1:=λfn=>ae (RE C r κ (.Call fn as [] p))) fn q λo m ap=>
 onN o.ctorIdx 16 (λq=>Expr.Call.elim (motive_1:=λo=>ae (RE C r κ (.Call (.Attribute o m ap) as [] p))) o q λfn2 as2 ks2 p2=>onN fn2.ctorIdx 23 (λq=>Expr.Name.elim (motive_1:=λfn2=>ae (RE C r κ (.Call (.Attribute (.Call fn2 as2 ks2 p2) m ap) as [] p))) fn2 q λy np=>onS y "SequenceMatcher" (λhy=>
  bd (d κ (.Call (.Name y np) as2 ks2 p2)) λf h=>onB (ap.endLine==p.line) λhk=>bd (dEs d κ as) λg hs=>bd (fndM m as.length M) λt te=>onB (t.r0.ble r) λhr=>onB (as.length.blt 30) λhl=>
   aa ⟨cS t.g f g,λ_ k=>by subst hy;exact EV.meth smc (te▸jt.mp t.hm) (t.cv.lift hr) (h.ok k) (hs.ok k) (hs.fl _) (aGk hs hl hk),pfC⟩) none) none) none) none) λ_ _=>none) none
theorem aug_ok(h:(i.ctorIdx.beq 3 || i.ctorIdx.beq 19)=ag):∀ ov iv new,augStore i ov iv new=(do sj [new,ov,iv] (wg ov iv new);release [new,ov,iv] [];pure .next):=by
 cases i<;>first |exact λ_ _ _=>rfl |cases h
def xAu(d:dEt C r)(κ:Kn)(st:jb):ae (Pk SF λf=>∀ ⦃env:Env⦄,KE κ env->SV C r env st f):=onN st.ctorIdx 7 (λq=>Stmt.AugAssign.elim st q λt op e pos=>onN op.ctorIdx 0 (λq=>Operator.Add.elim (motive:=λop=>ae (Pk SF λf=>∀ ⦃env:Env⦄,KE κ env->SV C r env (.AugAssign t op e pos) f)) op q <|
 onN t.ctorIdx 21 (λq=>Expr.Subscript.elim (motive_1:=λt=>ae (Pk SF λf=>∀ ⦃env:Env⦄,KE κ env->SV C r env (.AugAssign t .Add e pos) f)) t q λo i p=>bd (d κ o) λf1 h1=>bd (d κ i) λf2 h2=>bd (d κ e) λf h=>onB (i.ctorIdx.beq 3 || i.ctorIdx.beq 19) λhi=>
  aa ⟨tI q8 f1 f2 f,λ_ k=>SV.augI (h1.ok k) (h2.ok k) (h.ok k) OpR.iadd (aug_ok hi)⟩) none) none) none
def XX.D1(T:ac (Fn C)):DX C:=⟨X.smc,T++fn0 (r0:=0) "sum" CV.sum X.g_sum::fn0 "next" (CV.next X.gc X.gv (r:=8) (ce 8)) X.g_next::fn0 (r0:=0) "abs" CV.abs X.g_abs::X.T1,me0 "set_seqs" (l4 X) rfl::X.M1,X.ktl,_,X.km,X.g_enumerate,X.sys,λd t κ e=>orE (xIfE d t κ e) (orE (xSl d κ e) (orE (xClr d κ e) (xMc X.smc X.M1 d κ e))),λ_ _ _=>none,λd κ st=>xAu d κ st⟩
def jQ:SF:=(bO ["first","second"] (bD (esC (aA aL (b9 (esC (eK (.int 25)) esN)) (aK (bW (eR X.gc 6 X.gv) (λi=>i)) (esC (aK dF (esC (eK (.int 30)) (esC (eK (.int 37)) esN))) esN))) (esC (aK (bW (eR X.gc 6 X.gv) (λi=>i)) (esC (aK dF (esC (eK (.int 30)) (esC (eK (.int 37)) esN))) esN)) esN))))
def jP(X:XX C):SF:=(jV (cC C) (iL (eN "script")) (aN "x") (aB (sIf (tE (aA (aS not) (aA c6 (eN "x") (eK (.int 4))) (eK (.int 1)))) (aB (aZ (cV (eN "first") (aA c6 (aA q7 (eN "x") (eK (.int 4))) (eK (.int 5))))) (sK .next)) (sK .next)) (aB (sIf (tE (aA (aS not) (aA c6 (eN "x") (eK (.int 4))) (eK (.int 0)))) (aB (aZ (cV (eN "second") (aA c6 (aA q7 (eN "x") (eK (.int 4))) (eK (.int 5))))) (sK .next)) (sK .next)) (sK .next))))
def pO:SF:=(bO ["first","second"] (bD (esC (aA aL (eN "first") (aK (bW (eR X.gc 6 X.gv) (λi=>i)) (esC (aK dF (esC (eK (.int 40)) (esC (eK (.int 47)) esN))) esN))) (esC (aA aL (aA aL (eN "second") (aK (bW (eR X.gc 6 X.gv) (λi=>i)) (esC (aK dF (esC (eK (.int 40)) (esC (eK (.int 47)) esN))) esN))) (b9 (esC (eK (.int 47)) esN))) esN))))
def jO:SF:=(sIf (tE (aA (aS not) (aA c6 (aK cSum (esC (eN "script") esN)) (eK (.int 4))) (eK (.int 1)))) (aB (bO ["first","second"] (bD (esC (aA aL (aK (bW (eR X.gc 6 X.gv) (λi=>i)) (esC (aK dF (esC (eK (.int 20)) (esC (eK (.int 25)) esN))) esN)) (eN "first")) (esC (aA aL (aK (bW (eR X.gc 6 X.gv) (λi=>i)) (esC (aK dF (esC (eK (.int 20)) (esC (eK (.int 25)) esN))) esN)) (eN "second")) esN)))) (sK .next)) (sK .next))
def jN:SF:=(sIf (tE (aA (aS not) (aA c6 (aK cSum (esC (eN "script") esN)) (eK (.int 4))) (eK (.int 2)))) (aB (bO ["first","second"] (bD (esC (aA aL (eN "first") (aK (bW (eR X.gc 6 X.gv) (λi=>i)) (esC (aK dF (esC (eK (.int 50)) (esC (eK (.int 55)) esN))) esN))) (esC (aA aL (eN "second") (aK (bW (eR X.gc 6 X.gv) (λi=>i)) (esC (aK dF (esC (eK (.int 50)) (esC (eK (.int 55)) esN))) esN))) esN)))) (sK .next)) (sK .next))
def pN(X:XX C):SF:=(dX (bD (esC (eN "first") (esC (eN "second") esN))))
def i8:SF:=(aB (jQ X) (aB (jP X) (aB (pO X) (aB (jO X) (aB (jN X) (aB (pN X) (sK .next)))))))
theorem qU(P:bq)(L:bz):SVs C 10 (fh (bJ (o253 P)) L 253) (cU (stA 7)) (i8 X):=c9 (X.D1 []) rfl ⋯
def jB:CF:=jH ["script"] [] (i8 X)
theorem fI:CV C 11 (.ref 253) (jB X):=CV.def_ X.d__law_lists ⋯ X.b__law_lists (λ_ _=>.nil) (dL ⋯) (λL=>qU X X.w.params L)
def uR:SF:=(bF "rows" (aK (bW (eR X.gc 6 X.gv) (λi=>i)) (esC (eN "rows") esN)))
def szE:EF:=(aK lJ (esC (eN "least") (esC (aA b5 (eN "iend") (eN "i")) esN)))
def uQ(X:XX C):SF:=(sIf (aX (tE (aA (oIs not) (eN "least") (eK .none))) (aX (tE (aA (aS not) (eN "rows") (b9 esN))) (aX (tE (aA (aS id) (aA aO (aA aO (eN "rows") (eK (.int 0))) (eK (.int 0))) (eK (.str "equal")))) (tK ag)))) (aB (bX (aA aO (eN "rows") (eK (.int 0))) (cG 5 (asC (aN "tag") (asC (aN "i") (asC (aN "iend") (asC (aN "j") (asC (aN "jend") asN))))))) (aB (bF "size" szE) (aB (bX (bD (esC (eN "tag") (esC (aA b5 (eN "iend") (eN "size")) (esC (eN "iend") (esC (aA b5 (eN "jend") (eN "size")) (esC (eN "jend") esN)))))) (fY (eN "rows") (eK (.int 0)))) (sK .next)))) (sK .next))
def uP(X:XX C):SF:=(sIf (aX (tE (aA (oIs not) (eN "least") (eK .none))) (aX (tE (aA (aS not) (eN "rows") (b9 esN))) (aX (tE (aA (aS id) (aA aO (aA aO (eN "rows") (gQ (eK (.int 1)))) (eK (.int 0))) (eK (.str "equal")))) (tK ag)))) (aB (bX (aA aO (eN "rows") (gQ (eK (.int 1)))) (cG 5 (asC (aN "tag") (asC (aN "i") (asC (aN "iend") (asC (aN "j") (asC (aN "jend") asN))))))) (aB (bF "size" szE) (aB (bX (bD (esC (eN "tag") (esC (eN "i") (esC (aA aL (eN "i") (eN "size")) (esC (eN "j") (esC (aA aL (eN "j") (eN "size")) esN)))))) (fY (eN "rows") (gQ (eK (.int 1))))) (sK .next)))) (sK .next))
def uO(X:XX C):SF:=(dX (eN "rows"))
def lH:SF:=(aB (uR X) (aB (uQ X) (aB (uP X) (aB (uO X) (sK .next)))))
theorem vH(P:bq)(L:bz):SVs C 10 (fh (bJ (o260 P)) L 260) (cU (stA 8)) (lH X):=c9 (X.D1 [fn0 "_law_lists" (fI X) X.g__law_lists]) rfl ⋯
def dK:CF:=jH ["rows","least"] [] (lH X)
theorem jZ:CV C 11 (.ref 260) (dK X):=CV.def_ X.d__law_cut ⋯ X.b__law_cut (λ_ _=>.nil) (dL ⋯) (λL=>vH X X.w.params L)
def oK(X:XX C):SF:=(bF "inner" (aK dF (esC (eK (.int 1)) (esC (aA b5 (aK cM (esC (eN "rows") esN)) (eK (.int 1))) esN))))
def bigT:TF:=(aX (aX (tE (aA (aS id) (aA aO (aA aO (eN "rows") (eN "k")) (eK (.int 0))) (eK (.str "equal")))) (aX (tE (aA oGt (aA b5 (aA aO (aA aO (eN "rows") (eN "k")) (eK (.int 2))) (aA aO (aA aO (eN "rows") (eN "k")) (eK (.int 1)))) (aA oMul (eK (.int 2)) (eN "n")))) (tK ag))) (tK ag))
def oJ(X:XX C):SF:=(bF "edges" (eX (mF C) [".0","k"] (iR (eN "inner")) (aN "k") bigT (eY (eN "k"))))
def oI(X:XX C):SF:=(bF "edges" (aA aL (aA aL (b9 (esC (eK (.int 0)) esN)) (eN "edges")) (b9 (esC (aA b5 (aK cM (esC (eN "rows") esN)) (eK (.int 1))) esN))))
def slE:EF:=(oP (eN "rows") (aA aO (eN "edges") (eN "k")) (aA aL (aA aO (eN "edges") (aA aL (eN "k") (eK (.int 1)))) (eK (.int 1))) (eK .none))
def oH:SF:=(bF "groups" (eX (mF C) [".0","k"] (iR (aK dF (esC (aA b5 (aK cM (esC (eN "edges") esN)) (eK (.int 1))) esN))) (aN "k") (tK ag) (eY (aK (dK X) (esC slE (esC (eN "n") esN))))))
def oG(X:XX C):SF:=(dX (eX (cC C) [".0","group"] (iL (eN "groups")) (aN "group") (aX (tE (aA (aS not) (eX (cC C) [".0","row"] (iL (eN "group")) (aN "row") (aX (tE (aA (aS not) (aA aO (eN "row") (eK (.int 0))) (eK (.str "equal")))) (tK ag)) (eY (eN "row"))) (b9 esN))) (tK ag)) (eY (eN "group"))))
def hZ:SF:=(aB (oK X) (aB (oJ X) (aB (oI X) (aB (oH X) (aB (oG X) (sK .next))))))
theorem pD(P:bq)(L:bz):SVs C 11 (fh (bJ (o265 P)) L 265) (cU (stA 9)) (hZ X):=c9 (X.D1 [fn0 "_law_cut" (jZ X) X.g__law_cut,fn0 "_law_lists" (fI X) X.g__law_lists]) rfl ⋯
def fJ:CF:=jH ["rows","n"] [] (hZ X)
theorem jT:CV C 12 (.ref 265) (fJ X):=CV.def_ X.d__law_groups ⋯ X.b__law_groups (λ_ _=>.nil) (dL ⋯) (λL=>pD X X.w.params L)
def oF(X:XX C):SF:=(sIf (tE (aA (oIs id) (aA aO (eN "reader") (eK (.int 2))) (eK .none))) (aB (bX (eN "now") (fY (eN "reader") (eK (.int 2)))) (aB (bX (eIf (tE (aA (oIs id) (aA aO (eN "now") (eK (.int 1))) (eK .none))) (aA aO (eN "reader") (eK (.int 1))) (aK lJ (esC (aA aO (eN "now") (eK (.int 1))) (esC (aA aO (eN "reader") (eK (.int 1))) esN)))) (fY (eN "now") (eK (.int 1)))) (sK .next))) (sK .next))
def oE(X:XX C):SF:=(bX (aA aO (eN "reader") (eK (.int 2))) (cG 2 (asC (aN "rows") (asC (aN "least") asN))))
def oC:SF:=(bF "groups" (aK (fJ X) (esC (aK (dK X) (esC (eN "rows") (esC (eN "least") esN))) (esC (aA aO (eN "reader") (eK (.int 1))) esN))))
def oA(X:XX C):SF:=(bF "due" (eIf (tE (aA oLt (aA aO (eN "reader") (eK (.int 3))) (aK cM (esC (eN "groups") esN)))) (aA aO (eN "groups") (aA aO (eN "reader") (eK (.int 3)))) (eK .none)))
def n9(X:XX C):SF:=(tI q8 (eN "reader") (eK (.int 3)) (eK (.int 1)))
def n8(X:XX C):SF:=(bX (aA (oIs id) (eN "due") (eK .none)) (fY (eN "reader") (eK (.int 4))))
def nZ:SF:=(bF "told" (aK (y0 (gfn X)) (esC (aA aO (eN "reader") (eK (.int 0))) (esC (eK .none) esN))))
def nY(X:XX C):SF:=(sIf (tE (aA (aS not) (eN "told") (eN "due"))) (aB (dX (eK (.bool af))) (sK .next)) (sK .next))
def nW(X:XX C):SF:=(sIf (aX (tE (aA (oIs not) (eN "due") (eK .none))) (aX (tE (aA (aS id) (aA c6 (aA aL (aA aO (eN "reader") (eK (.int 1))) (aA aO (eN "reader") (eK (.int 3)))) (eK (.int 2))) (eK (.int 0)))) (tK ag))) (aB (aZ (cV (eN "given") (bD (esC (eN "told") (esC (eN "due") esN))))) (sK .next)) (aB (sIf (tE (aA (oIs not) (eN "due") (eK .none))) (aB (aZ (oQ (eN "told"))) (sK .next)) (sK .next)) (sK .next)))
def nV(X:XX C):SF:=(dX (eK (.bool ag)))
def kI:SF:=(aB (oF X) (aB (oE X) (aB (oC X) (aB (oA X) (aB (n9 X) (aB (n8 X) (aB (nZ X) (aB (nY X) (aB (nW X) (aB (nV X) (sK .next)))))))))))
theorem pC(P:bq)(L:bz):SVs C 12 (fh (bJ (o272 P)) L 272) (cU (stA 10)) (kI X):=c9 (X.D1 [fn0 "_law_groups" (jT X) X.g__law_groups,fn0 "_law_cut" (jZ X) X.g__law_cut,fn0 "_law_lists" (fI X) X.g__law_lists]) rfl ⋯
def eJ:CF:=jH ["reader","now","given"] [] (kI X)
theorem pQ:CV C 13 (.ref 272) (eJ X):=CV.def_ X.d__law_pulled ⋯ X.b__law_pulled (λ_ _=>.nil) (dL ⋯) (λL=>pC X X.w.params L)
def yN:SF:=(bX (aK (jB X) (esC (eN "script") esN)) (cG 2 (asC (aN "first") (asC (aN "second") asN))))
def yM:SF:=(bF "matcher" (aK X.c_SM4 (esC (eK .none) (esC (eN "first") (esC (eN "second") (esC (eK (.bool af)) esN))))))
def newE:EF:=(cS (aU X) (aK X.c_SM4 (esC (eK .none) (esC (eN "first") (esC (eN "second") (esC (eK (.bool af)) esN))))) esN)
def yL:SF:=(bF "eras" (b9 (esC (b9 (esC (newE X) (esC (eK .none) esN))) esN)))
def yK(X:XX C):SF:=(bO ["readers","given"] (bD (esC (b9 esN) (esC (b9 esN) esN))))
def nKE:EF:=(eIf (tE (aA (aS not) (aA c6 (eN "k") (eK (.int 3))) (eK (.int 0)))) (aA c6 (eN "k") (eK (.int 8))) (aK cAbs (esC (eN "k") esN)))
def rdE:EF:=(eIf (tE (aA (aS id) (eN "n") (eK (.int 3)))) (cS (bY X) (eN "matcher") esN) (cS (b6 X) (eN "matcher") (esC (eN "n") esN)))
def lsE:EF:=(b9 (esC (eN "reader") (esC (eN "n") (esC (eK .none) (esC (eK (.int 0)) (esC (eK (.bool af)) esN))))))
def deed0:SF:=aB (bF "n" nKE) (aB (bF "reader" (rdE X)) (aB (aZ (cV (eN "readers") lsE)) (sK .next)))
def setS:SF:=(aZ (cS (bL X) (eN "matcher") (esC (eN "first") (esC (eN "second") esN))))
def rkE:EF:=(aA aO (eN "readers") (aA c6 (eN "k") (aK cM (esC (eN "readers") esN))))
def apE:SF:=(aZ (cV (eN "eras") (b9 (esC (newE X) (esC (eK .none) esN)))))
def lenS:TF:=(tE (aA oLt (aK cM (esC (eN "eras") esN)) (eK (.int 5))))
def t8:EF:=(aA aO (eN "eras") (gQ (eK (.int 1))))
def askE:EF:=(cS (aU X) (eN "matcher") esN)
def x6E:EF:=aA c6 (eN "x") (eK (.int 6))
def yJ:SF:=(jV (cC C) (iL (aA aL (b9 (esC (eK (.int 18)) (esC (eK (.int 1)) (esC (eK (.int 6)) (esC (eK (.int 7)) esN))))) (eN "script"))) (aN "x") (aB (bF "k" (aA q7 (eN "x") (eK (.int 6)))) (aB (sIf (tE (aA (aS id) x6E (eK (.int 0)))) (deed0 X) (aB (sIf (tE (aA oLt x6E (eK (.int 4)))) (aB (sIf (mD (tE (aK (eJ X) (esC rkE (esC t8 (esC (eN "given") esN)))))) (aB (dX (eK (.bool af))) (sK .next)) (sK .next)) (sK .next)) (aB (sIf (tE (aA (aS id) x6E (eK (.int 4)))) (aB (sIf (tE (aA (aS not) (askE X) (aK (dK X) (esC (aA aO t8 (eK (.int 0))) (esC (aA aO t8 (eK (.int 1))) esN))))) (aB (dX (eK (.bool af))) (sK .next)) (sK .next)) (sK .next)) (aB (sIf (tE (aA (aS id) (aA c6 (eN "k") (eK (.int 4))) (eK (.int 0)))) (aB (setS X) (sK .next)) (aB (sIf lenS (aB (sIf (tE (aA (aS id) (aA c6 (eN "k") (eK (.int 4))) (eK (.int 1)))) (aB (bO ["first","second"] (bD (esC (aK (bW (eR X.gc 6 X.gv) (λi=>i)) (esC (eN "second") esN)) (esC (aK (bW (eR X.gc 6 X.gv) (λi=>i)) (esC (eN "first") esN)) esN)))) (sK .next)) (aB (sIf (tE (aA (aS id) (aA c6 (eN "k") (eK (.int 4))) (eK (.int 2)))) (aB (bO ["first","second"] (bD (esC (aK (bW (eR X.gc 6 X.gv) (λi=>i)) (esC (eN "second") esN)) (esC (aK (bW (eR X.gc 6 X.gv) (λi=>i)) (esC (eN "second") esN)) esN)))) (sK .next)) (aB (bO ["first","second"] (bD (esC (b9 esN) (esC (eIf (tE (aA (aS id) (aA c6 (eN "k") (eK (.int 8))) (eK (.int 3)))) (aK (bW (eR X.gc 6 X.gv) (λi=>i)) (esC (eN "second") esN)) (b9 esN)) esN)))) (sK .next))) (sK .next))) (aB (setS X) (aB (apE X) (sK .next)))) (sK .next)) (sK .next))) (sK .next))) (sK .next))) (sK .next))) (sK .next))))
def yI:SF:=(jV (cC C) (iL (oP (eN "readers") (eK .none) (eK .none) (gQ (eK (.int 1))))) (aN "reader") (aB (fM (mD (tE (aA aO (eN "reader") (eK (.int 4))))) (aB (sIf (mD (tE (aK (eJ X) (esC (eN "reader") (esC t8 (esC (eN "given") esN)))))) (aB (dX (eK (.bool af))) (sK .next)) (sK .next)) (sK .next))) (sK .next)))
def yH(X:XX C):SF:=(sIf (tE (aA (aS not) (eX (cC C) [".0","told","due"] (iL (eN "given")) (wQ 2 (asC (aN "told") (asC (aN "due") asN))) (aX (tE (aA (aS not) (eN "told") (eN "due"))) (tK ag)) (eY (eN "due"))) (b9 esN))) (aB (dX (eK (.bool af))) (sK .next)) (sK .next))
def yG:SF:=(dX (aA (aS id) (askE X) (aK (dK X) (esC (aA aO t8 (eK (.int 0))) (esC (aA aO t8 (eK (.int 1))) esN)))))
def aD0:SF:=(aB (yN X) (aB (yM X) (aB (yL X) (aB (yK X) (aB (yJ X) (aB (yI X) (aB (yH X) (aB (yG X) (sK .next)))))))))
theorem sv_law(P:bq)(L:bz):SVs C 13 (fh (bJ (o277 P)) L 277) (cU (stA 11)) (aD0 X):=c9 (X.D1 [fn0 "_law_pulled" (pQ X) X.g__law_pulled,fn0 "_law_groups" (jT X) X.g__law_groups,fn0 "_law_cut" (jZ X) X.g__law_cut,fn0 "_law_lists" (fI X) X.g__law_lists]) rfl ⋯
def c_law:CF:=jH ["script"] [] (aD0 X)
theorem cv_law:CV C 14 (.ref 277) (c_law X):=CV.def_ X.d_law ⋯ X.b_law (λ_ _=>.nil) (dL ⋯) (λL=>sv_law X X.w.params L)
theorem Yj0:m<200->(0:Nat)+((2:Nat)*Int.toNat (((m:Nat):Int)-(0:Int))+(1:Nat)+(0:Nat))<=(1000:Nat):=zzM 0x1137e8f40f41f6803da28101102f80000f40006a3d07da00007 [m]
theorem Yj1:m<200->(2:Nat)*Int.toNat (((m:Nat):Int)-(0:Int))+(1:Nat)+(0:Nat)<=(1000:Nat):=zzM 0x44dfa3d03d07da00f68a040440be000006a3d07da00007 [m]
def av(l:ac Int)(i:Int):Int:=l.getD i.toNat 0
def Mt(a b:ac Int)(i j k:Int):Prop:=∀ t,0<=t->t<k->av a (i+t)=av b (j+t)
structure Wd where
 al:Int
 ah:Int
 bl:Int
 bh:Int
structure In(a b:ac Int)(w:Wd)(i j k:Int):Prop where
 i0:w.al<=i
 i1:i+k<=w.ah
 j0:w.bl<=j
 j1:j+k<=w.bh
 k0:0<=k
 m:Mt a b i j k
def Ge(i j k i' j' k':Int):Prop:=k'<k\/(k'=k/\(i<i'\/(i=i'/\j<=j')))
structure Best(a b:ac Int)(w:Wd)(i j k:Int):Prop where
 n:In a b w i j k
 z:k=0->i=w.al/\j=w.bl
 g:∀ i' j' k',In a b w i' j' k'->0<k'->Ge i j k i' j' k'
theorem Ge.anti(h:Ge i j k i' j' k')(h':Ge i' j' k' i j k):i=i'/\j=j'/\k=k':=by
 rcases h with h |⟨e,h⟩
 ·rcases h' with h' |⟨e',_⟩
  ·exact ba h (Int.lt_asymm h')
  ·exact ba h (e'▸ju _)
 ·rcases h' with h' |⟨_,h'⟩
  ·exact ba h' (e▸ju _)
  ·rcases h with h |⟨e1,h⟩
   ·rcases h' with h' |⟨e2,_⟩
    ·exact ba h (Int.lt_asymm h')
    ·exact ba h (e2▸ju _)
   ·rcases h' with h' |⟨_,h'⟩
    ·exact ba h' (e1▸ju _)
    ·exact⟨e1,Int.le_antisymm h h',e.symm⟩
theorem Ge.pos(h:Ge i j k i' j' k')(h':0<k'):0<k:=by
 rcases h with h |⟨e,_⟩
 ·exact Int.lt_trans h' h
 ·exact e▸h'
theorem Best.uniq(h:Best a b w i j k)(h':Best a b w i' j' k'):i=i'/\j=j'/\k=k':=by
 refine Or.elim (Int.lt_or_eq_of_le h.n.k0) (λp=>?_) λp=>?_
 ·have q:=h'.g _ _ _ h.n p
  exact(h.g _ _ _ h'.n (q.pos p)).anti q
 ·refine Or.elim (Int.lt_or_eq_of_le h'.n.k0) (λp'=>(ba ((h.g _ _ _ h'.n p').pos p') (p▸ju _))) λp'=>?_
  ·have z':=h'.z p'.symm
   exact⟨(h.z p.symm).1.trans z'.1.symm,(h.z p.symm).2.trans z'.2.symm,p.symm.trans p'⟩
structure Suf(a b:ac Int)(w:Wd)(i j k:Int):Prop where
 k0:0<=k
 i0:w.al<=i-k+1
 j0:w.bl<=j-k+1
 m:Mt a b (i-k+1) (j-k+1) k
 x:w.al<=i-k->w.bl<=j-k->av a (i-k)≠av b (j-k)
theorem Suf.zero(hi:w.al<=i+1)(hj:w.bl<=j+1)(x:w.al<=i->w.bl<=j->av a i≠av b j):Suf a b w i j 0:=⟨Int.le_refl _,A128 hi,A128 hj,λt h1 h2=>ba h2 (mo.mpr h1),by simpa using x⟩
theorem Suf.succ(h:Suf a b w (i-1) (j-1) k)(e:av a i=av b j):Suf a b w i j (k+1):=by
 have e1:i-(k+1)=i-1-k:=A129
 have e2:j-(k+1)=j-1-k:=A129
 refine⟨Int.add_nonneg h.k0 (by decide),by exact rwL e1 h.i0,by exact rwL e2 h.j0,λt h1 h2=>?_,by exact rwL e1 (rwL e2 h.x)⟩
 rw[e1,e2]
 by_cases q:t=k
 ·exact rwL (A130 q:i-1-k+1+t=i) (rwL (A131 (A130 q:i-1-k+1+t=i)) e)
 ·exact h.m t h1 (A132 h2 q)
theorem Suf.max(h:Suf a b w i j k)(n:In a b w i' j' k')(e1:i'+k'=i+1)(e2:j'+k'=j+1):k'<=k:=by
 refine mo.mp λq=>?_
 have m:=n.m (k'-1-k) (A133 q) (A134 h.k0)
 rw[(A135 e1),(A135 e2)]at m
 exact h.x (by exact A136 q (A135 e1) n.i0) (by exact A136 q (A135 e2) n.j0) m
structure BU(a b:ac Int)(w:Wd)(x y i j k:Int):Prop where
 n:In a b w i j k
 z:k=0->i=w.al/\j=w.bl
 e:0<k->i+k<=x\/(i+k=x+1/\j+k<=y)
 g:∀ i' j' k',In a b w i' j' k'->0<k'->(i'+k'<=x\/(i'+k'=x+1/\j'+k'<=y))->Ge i j k i' j' k'
theorem BU.start(h1:w.al<=w.ah)(h2:w.bl<=w.bh):BU a b w w.al w.bl w.al w.bl 0:=by
 refine⟨⟨Int.le_refl _,A137 h1,Int.le_refl _,A137 h2,Int.le_refl _,λt h1 h2=>ba h2 (mo.mpr h1)⟩,λ_=>⟨rfl,rfl⟩,λq=>ba q (ju _),λi' j' k' n q r=>?_⟩
 have:=n.i0;have:=n.j0;omega
theorem BU.skip(h:BU a b w x y i j k)(hy:y<=y')(hn:∀ c,y<=c->c<y'->w.bl<=c->c<w.bh->av a x≠av b c):BU a b w x y' i j k:=by
 refine⟨h.n,h.z,λq=>(h.e q).imp_right λr=>⟨r.1,bw r.2 hy⟩,λi' j' k' n q r=>?_⟩
 by_cases p:i'+k'<=x\/(i'+k'=x+1/\j'+k'<=y)
 ·exact h.g i' j' k' n q p
 ·have a1:=A140 r p
  exact ba (rwR a1 (n.m (k'-1) (A138 q) A139)) (hn _ (A141 p a1) (A142 r a1) (by exact A143 q n.j0) (by exact A144 n.j1))
theorem BU.row(h:BU a b w x w.bh i j k):BU a b w (x+1) w.bl i j k:=by
 refine⟨h.n,h.z,λq=>.inl ?_,λi' j' k' n q r=>h.g i' j' k' n q ?_⟩
 ·refine Or.elim (h.e q) (λr=>?_) λr=>?_<;>omega
 ·have:=n.j0;have:=n.j1;omega
theorem BU.at(h:BU a b w x y i j k)(n:In a b w i' j' k')(r:0<k')(t:i'+k'<=x\/(i'+k'=x+1/\j'+k'<=y+1))(u: ¬(i'+k'<=x\/(i'+k'=x+1/\j'+k'<=y))):i'+k'=x+1/\j'+k'=y+1:=by
 rcases t with t |⟨t1,t2⟩
 ·exact ba (.inl t) u
 ·exact⟨t1,Int.le_antisymm t2 (mo.mp λq=>u (.inr ⟨t1,Int.le_of_lt_add_one q⟩))⟩
theorem BU.step(h:BU a b w x y i j k)(s:Suf a b w x y k1)(hx:x<w.ah)(hy:y<w.bh)(p:0<k1):BU a b w x (y+1) (if k<k1 then x-k1+1 else i) (if k<k1 then y-k1+1 else j) (if k<k1 then k1 else k):=by
 by_cases q:k<k1
 ·simp only[aw q]
  refine⟨⟨s.i0,A145 hx,s.j0,A145 hy,s.k0,s.m⟩,λz=>(A146 p z).elim,λ_=>.inr ⟨A147,A148⟩,λi' j' k' n r t=>?_⟩
  by_cases u:i'+k'<=x\/(i'+k'=x+1/\j'+k'<=y)
  ·rcases h.g i' j' k' n r u with v |⟨v,_⟩
   ·exact .inl (Int.lt_trans v q)
   ·exact .inl (v▸q)
  ·have e:=BU.at h n r t u
   refine Or.elim (Int.lt_or_eq_of_le (s.max n e.1 e.2)) (λv=>(.inl v)) λv=>?_
   ·exact .inr ⟨v,.inr ⟨A149 e v,A150 e v⟩⟩
 ·simp only[aq q]
  refine⟨h.n,h.z,λz=>(h.e z).imp_right λr=>⟨r.1,A151 r⟩,λi' j' k' n r t=>?_⟩
  by_cases u:i'+k'<=x\/(i'+k'=x+1/\j'+k'<=y)
  ·exact h.g i' j' k' n r u
  ·have e:=BU.at h n r t u
   have v:=bw (s.max n e.1 e.2) (mo.mp q)
   refine Or.elim (Int.lt_or_eq_of_le v) (λv=>(.inl v)) λv=>?_
   ·refine .inr ⟨v,Or.elim (h.e (v▸r)) (λz=>(.inl (A152 e v z))) λz=>?_⟩
    ·exact .inr ⟨A153 e v z,A154 e v z⟩
theorem BU.done(h:BU a b w w.ah w.bl i j k):Best a b w i j k:=⟨h.n,h.z,λi' j' k' n q=>h.g i' j' k' n q (.inl n.i1)⟩
def Row(a b:ac Int)(w:Wd)(x y:Int)(g:Int->ae Int):Prop:=∀ c,if w.bl<=c/\c<y/\w.al<=x/\av a x=av b c then ∃ k,g c=aa k/\Suf a b w x c k else g c=none
theorem Row.skip(h:Row a b w x y g)(hy:y<=y')(hn:∀ c,y<=c->c<y'->w.bl<=c->av a x≠av b c):Row a b w x y' g:=λc=>by
 have:=h c
 by_cases q:w.bl<=c/\c<y'/\w.al<=x/\av a x=av b c
 ·rw[aw q]
  by_cases r:c<y
  ·rwa [aw ⟨q.1,r,q.2.2⟩]at this
  ·exact ba q.2.2.2 (hn c (mo.mp r) q.2.1 q.1)
 ·rw[aq q]
  rwa [aq λr=>q ⟨r.1,A155 hy r,r.2.2⟩]at this
theorem Row.step(h:Row a b w x y g)(hy:w.bl<=y)(hx:w.al<=x)(e:av a x=av b y)(s:Suf a b w x y k):Row a b w x (y+1) (λc=>if c=y then aa k else g c):=λc=>by
 have:=h c
 by_cases q:c=y
 ·exact rwL q (rwL (aw ⟨hy,A156,hx,e⟩) ⟨k,aw rfl,s⟩)
 ·dsimp only
  refine rwL (aq q) ?_
  by_cases r:w.bl<=c/\c<y/\w.al<=x/\av a x=av b c
  ·rw[aw r]at this
   rw[aw ⟨r.1,A157 r,r.2.2⟩];exact this
  ·rw[aq r]at this
   rw[aq λz=>r ⟨z.1,A158 q z,z.2.2⟩];exact this
theorem Row.next(h:Row a b w (x-1) w.bh g)(hx:w.al<=x)(hy:w.bl<=y)(hy2:y<w.bh)(e:av a x=av b y):Suf a b w x y ((g (y-1)).getD 0+1):=by
 have:=h (y-1)
 refine Suf.succ ?_ e
 by_cases q:w.bl<=y-1/\y-1<w.bh/\w.al<=x-1/\av a (x-1)=av b (y-1)
 ·rw[aw q]at this
  exact xEA this λk h1 h2=>rwL h1 h2
 ·rw[aq q]at this
  exact rwL this (.zero (A159 hx) (A159 hy) λh1 h2 h3=>q ⟨h2,A160 hy2,h1,h3⟩)
theorem Row.zero(h:x<w.al\/y<=w.bl):Row a b w x y (λ_=>none):=λc=>by
 rw[aq (A161 h)]
class inductive Idx(b:ac Int)(v:Int):Int->ac Int->Prop
 |nil {lo:Int} (h:∀ c:Int,lo<=c->c<b.length->av b c≠v):Idx b v lo []
 |cons {lo j:Int}{js:ac Int} (h:lo<=j) (hl:j<b.length) (e:av b j=v) (n:∀ c:Int,lo<=c->c<j->av b c≠v) (r:Idx b v (j+1) js):Idx b v lo (j::js)
theorem Idx.no(h:Idx b v y (j::js)):∀ c,y<=c->c<j->av b c≠v:=by
 cases h with
 |cons _ _ _ n _=>exact n
structure WOk(a b:ac Int)(w:Wd):Prop where
 a0:0<=w.al
 a1:w.al<=w.ah
 a2:w.ah<=a.length
 b0:0<=w.bl
 b1:w.bl<=w.bh
 b2:w.bh<=b.length
structure T3 where
 i:Int
 j:Int
 k:Int
def gU(w:Wd)(i j:Int)(q:ac Wd):ac Wd:=if w.al<i/\w.bl<j then⟨w.al,i,w.bl,j⟩::q else q
def iU(w:Wd)(i j k:Int)(q:ac Wd):ac Wd:=if i+k<w.ah/\j+k<w.bh then⟨i+k,w.ah,j+k,w.bh⟩::q else q
class inductive Run(a b:ac Int):ac Wd->ac T3->ac T3->Prop
 |nil {m:ac T3}:Run a b [] m m
 |zero {w:Wd}{q:ac Wd}{m r:ac T3}{i j:Int} (B:Best a b w i j 0) (h:Run a b q m r):Run a b (w::q) m r
 |pos {w:Wd}{q:ac Wd}{m r:ac T3}{i j k:Int} (B:Best a b w i j k) (p:0<k) (h:Run a b (iU w i j k (gU w i j q)) (m++[⟨i,j,k⟩]) r):Run a b (w::q) m r
theorem Run.uniq(h:Run a b q m r)(h':Run a b q m r'):r=r':=by
 induction h with
 |nil=>cases h';rfl
 |zero B h ih=>
  cases h' with
  |zero B' h'=>exact ih h'
  |pos B' p h'=>exact ba ((B.uniq B').2.2▸p) (ju _)
 |pos B p h ih=>
  cases h' with
  |zero B' h'=>exact ba ((B'.uniq B).2.2▸p) (ju _)
  |pos B' p' h'=>
   refine xAA (B.uniq B') λe1 e2 e3=>?_
   subst e1 e2 e3
   exact ih h'
def wsz(w:Wd):Nat:=2*(w.ah-w.al).toNat+1
def mu:ac Wd->Nat
 | []=>0
 |w::q=>wsz w+mu q
theorem mu_c(w:Wd)(q:ac Wd):mu (w::q)=wsz w+mu q:=rfl
theorem vY:∀ q:ac Wd,q.length<=mu q
 | []=>ce _
 |w::q=>by
  rw[mu_c,cq,Nat.add_comm]
  exact Nat.add_le_add (nh _ _) (vY q)
theorem w4(h:WOk a b w)(B:Best a b w i j k)(hq:∀ v∈q,WOk a b v):∀ v∈iU w i j k (gU w i j q),WOk a b v:=by
 have i1:=B.n.i1;have j0:=B.n.j0;have j1:=B.n.j1;have k0:=B.n.k0
 have ik:=Int.add_le_add_left k0 i;have jk:=Int.add_le_add_left k0 j
 rw[qa]at ik jk
 have h1:∀ v∈gU w i j q,WOk a b v:=λv hv=>by
  unfold gU at hv
  split at hv
  ·refine Or.elim (ez.mp hv) (λe=>(e▸⟨h.a0,B.n.i0,bw ik (bw i1 h.a2),h.b0,j0,bw jk (bw j1 h.b2)⟩)) λe=>?_
   ·exact hq v e
  ·exact hq v hv
 intro v hv
 unfold iU at hv
 split at hv
 ·refine Or.elim (ez.mp hv) (λe=>(e▸⟨bw h.a0 (bw B.n.i0 ik),i1,h.a2,bw h.b0 (bw j0 jk),j1,h.b2⟩)) λe=>?_
  ·exact h1 v e
 ·exact h1 v hv
theorem mu_sub(B:Best a b w i j k)(p:0<k)(q:ac Wd):mu (iU w i j k (gU w i j q))+1<=mu (w::q):=by
 have i1:=B.n.i1
 have e1:mu (gU w i j q)<=2*(i-w.al).toNat+1+mu q:=by
  delta gU
  split
  ·exact ce _
  ·exact nh _ _
 have e2:mu (iU w i j k (gU w i j q))<=2*(w.ah-(i+k)).toNat+1+mu (gU w i j q):=by
  delta iU
  split
  ·exact ce _
  ·exact nh _ _
 exact A183 p B.n.i0 i1 e1 e2 rfl
def nad(c:T3):ac T3->ac T3
 | []=>if c.k=0 then [] else [c]
 |x::xs=>if c.i+c.k=x.i/\c.j+c.k=x.j then nad ⟨c.i,c.j,c.k+x.k⟩ xs else(if c.k=0 then [] else [c])++nad x xs
theorem xJ(c:T3):nad c []=if c.k=0 then [] else [c]:=rfl
theorem xK(c x:T3)(xs:ac T3):nad c (x::xs)=if c.i+c.k=x.i/\c.j+c.k=x.j then nad ⟨c.i,c.j,c.k+x.k⟩ xs else(if c.k=0 then [] else [c])++nad x xs:=rfl
noncomputable abbrev Nv:=ac (Str×ae V)
def look(l:Nv):Lo:=λx=>match l.lookup x with |some o=>o |none=>none
def put(l:Nv)(x:Str)(v:V):Nv:=match l with
 | []=>[(x,aa v)]
 | (y,u)::r=>bif x==y then(y,aa v)::r else(y,u)::put r x v
theorem put_n(x:Str)(v:V):put [] x v= [(x,aa v)]:=rfl
theorem put_c(y:Str)(u:ae V)(r:Nv)(x:Str)(v:V):put ((y,u)::r) x v=bif x==y then(y,aa v)::r else(y,u)::put r x v:=rfl
theorem dJ(y z:Str)(u:ae V)(r:Nv):((z,u)::r).lookup y=if y=z then aa u else r.lookup y:=by
 rw[List.lookup]
 by_cases h:y=z
 ·subst h;rw[nu,aw rfl]
 ·rw[aq h,show (y==z)=af by simpa using h]
theorem m7(x:Str)(v:V)(y:Str):∀ l:Nv,(put l x v).lookup y=if y=x then aa (aa v) else l.lookup y
 | []=>by rw[put_n,dJ]
 | (z,u)::r=>by
  rw[put_c]
  by_cases h:x=z
  ·subst h
   rw[nu,dy,dJ,dJ]
   by_cases h2:y=x
   ·rw[aw h2,aw h2]
   ·rw[aq h2,aq h2,aq h2]
  ·rw[show (x==z)=af by simpa using h,fk,dJ,dJ,m7]
   by_cases h2:y=z
   ·rw[aw h2,aq (λq=>h (q.symm.trans h2)),aw h2]
   ·rw[aq h2,aq h2]
theorem aD(l:Nv)(x:Str)(v:V):upd (look l) x v=look (put l x v):=by
 funext y
 show(if y=x then aa v else _)=match (put l x v).lookup y with |some o=>o |none=>none
 rw[m7]
 by_cases h:y=x
 ·rw[aw h,aw h]
 ·rw[aq h,aq h];rfl
theorem kch{B:Prop}(h:A=B)(b:B):A:=h.mpr b
structure GoK(I:Lo->MH->Prop)(Q K:SK):Prop where
 nx:∀ {lo H},I lo H->K .next lo H
 ct:∀ {lo H},I lo H->K .cont lo H
 br:∀ {lo H},Q .next lo H->K .brk lo H
 rt:∀ {v lo H},Q (.ret v) lo H->K (.ret v) lo H
theorem GoK.loop{again:Lo->MH->SK->Prop}(h:∀ {lo H},I lo H->again lo H Q):GoK I Q (t7 again Q):=⟨h,h,id,id⟩
theorem fV(Inv:ac V->Lo->MH->Prop)(hl:∀ {rest lo H},Inv rest lo H->lst H (.ref r)=aa vs)(he:∀ {lo H},Inv [] lo H->Q .next lo H)(hs:∀ {v rest lo H K},Inv (v::rest) lo H->GoK (Inv rest) Q K->tgt v lo H λlo1 H1=>body lo1 H1 K):∀ (rest:ac V) (p:Nat){lo:Lo}{H:MH},vs.drop p=rest->Inv rest lo H->cZ (cC C) tgt body (rest.length+1) (r,p) lo H Q:=λn=>by
 induction n with
 |nil=>
  refine λp lo H hd h=>(Lf.mk (p:=none) ?_ (he h))
  show(lst H (.ref r)).map _=_
  rw[hl h,qt,eu (mh.mp hd)];rfl
 |cons v rest ih=>
  intro p lo H hd h
  have hv:vs[p]? =aa v:=by rw[<-rk,hd];rfl
  refine Lf.mk (p:=aa (v,(r,p+1))) ?_ ?_
  ·show(lst H (.ref r)).map _=_
   rw[hl h,qt,hv];rfl
  ·exact hs h (.loop λh'=>ih (p+1) (by rw[<-vm,hd];rfl) h')
theorem yE(Inv:Int->Lo->MH->Prop)(he:∀ {lo H},Inv e lo H->Q .next lo H)(hs:∀ {x lo H K},x<e->Inv x lo H->GoK (Inv (x+1)) Q K->tgt (.int x) lo H λlo1 H1=>body lo1 H1 K):∀ (n:Nat) (x:Int){lo:Lo}{H:MH},x+n=e->Inv x lo H->cZ (mF C) tgt body (n+1) (x,n,1) lo H Q:=λn=>by
 induction n with
 |zero=>
  intro x lo H hd h
  have:=A162 hd
  subst this
  exact he h
 |succ n ih=>
  exact λx lo H hd h=>(hs (A163 hd) h (.loop λh'=>ih (x+1) (A164 hd) h'))
theorem while_{b:SF}(Inv:Nat->Lo->MH->Prop)(hs:∀ {m lo H},Inv m lo H->t lo H λc H1=>bif c then ∀ K,GoK (λlo' H'=>∃ m',m'<m/\Inv m' lo' H') Q K->b lo H1 K else Q .next lo H1)(mono:∀ {lo H}{P P':dj->MH->Prop},t lo H P->(∀ c H',P c H'->P' c H')->t lo H P'):∀ (n m:Nat){lo:Lo}{H:MH},m<n->Inv m lo H->runW t b n lo H Q:=λn=>by
 induction n with
 |zero=>
  exact λ_ _ _ hn _=>(ba hn (Nat.not_lt_zero _))
 |succ n ih=>
  intro m lo H hn h
  exact mono (hs h) λc H' p=>by
    cases c with
    |true=>exact p _ (.loop fun⟨m',h1,h2⟩=>ih m' (Nat.lt_of_lt_of_le h1 (Nat.le_of_lt_succ hn)) h2)
    |false=>exact p
def LI(H:MH)(r:Nat)(l:ac Int):Prop:=lst H (.ref r)=aa (l.map V.int)
def Hx(H H':MH):Prop:=∀ (i:Nat) (m:MO),H[i]? =aa m->H'[i]? =aa m
theorem Hx.refl(H:MH):Hx H H:=λ_ _ e=>e
theorem Hx.trans{H1:MH}(a:Hx H1 H2)(b:Hx H2 H3):Hx H1 H3:=λi m e=>b i m (a i m e)
theorem Hx.app(H l:MH):Hx H (H++l):=λi m e=>by
 exact rwL (dl (List.getElem?_eq_some_iff.mp e).1) e
theorem Hx.set{H1:MH}(h:Hx H H1)(hi:H[i]? =none):Hx H (H1.set i m):=λj x e=>by
 have:i≠j:=λq=>by rw[q,e]at hi;exact cyM hi
 exact rwL (ei this) (h j x e)
theorem Hx.lst(h:Hx H H')(e:lst H v=aa vs):lst H' v=aa vs:=by
 exact xEA (aj.mp e) λi hi e=>xEA (aj.mp e) λm hm e=>aj.mpr ⟨i,hi,aj.mpr ⟨m,h _ _ hm,e⟩⟩
theorem Hx.li(h:Hx H H')(e:LI H r l):LI H' r l:=h.lst e
theorem bC(H:MH)(m:MO):(H++[m])[H.length]? =aa m:=by simp
theorem kD(H:MH)(vs:ac V):lst (H++[.list vs]) (.ref H.length)=aa vs:=by
 show((H++[MO.list vs])[H.length]?).bind _=_
 rw[bC];rfl
theorem aM(H:MH):H[H.length]? =none:=eu (ce _)
def Hp(B:Nat->ae MO)(H:MH):Prop:=∀ (i:Nat) (m:MO),B i=aa m->H[i]? =aa m
theorem Hp.hx{H1:MH}(h:Hp B H)(x:Hx H H1):Hp B H1:=λi m e=>x _ _ (h i m e)
theorem Hp.set(h:Hp B H)(n:B i=none):Hp B (H.set i m):=λj x e=>by
 exact rwL (ei (λq=>aE (n.symm.trans (q▸e)))) (h j x e)
theorem Hp.fresh(h:Hp B H):B H.length=none:=by
 cases e:B H.length with
 |none=>rfl
 |some m=>exact aE ((aM H).symm.trans (h _ _ e))
def LP(B:Nat->ae MO)(r:Nat)(l:ac Int):Prop:=(B r).bind MO.vs=aa (l.map V.int)
theorem Hp.li(h:Hp B H)(e:LP B r l):LI H r l:=by
 exact xEA (aj.mp e) λm hm e=>aj.mpr ⟨r,rfl,aj.mpr ⟨m,h _ _ hm,e⟩⟩
def B2J(H:MH)(b:ac Int)(f:Int->ae V):Prop:=∀ v,(f v=none/\Idx b v 0 [])\/∃ r js,f v=aa (.ref r)/\LI H r js/\Idx b v 0 js
theorem B2J.hx(h:B2J H b f)(e:Hx H H'):B2J H' b f:=λv=>(h v).imp_right fun⟨r,js,h1,h2,h3⟩=>⟨r,js,h1,e.li h2,h3⟩
structure SM(H:MH)(s ra rb rd rj n:Nat)(fs:Str->ae V)(f:Int->ae V)(a b:ac Int):Prop where
 o:H[s]? =aa (.inst fs)
 fa:fs "a" =aa (.ref ra)
 fb:fs "b" =aa (.ref rb)
 fd:fs "b2j" =aa (.ref rd)
 fj:fs "bjunk" =aa (.ref rj)
 ia:LI H ra a
 ib:LI H rb b
 d:H[rd]? =aa (.dict n f)
 j:H[rj]? =aa .eset
 bj:B2J H b f
 al:a.length<1000000
 bl:b.length<1000000
theorem SM.hx{rd:Nat}(h:SM H s ra rb rd rj n fs f a b)(e:Hx H H'):SM H' s ra rb rd rj n fs f a b:=⟨e _ _ h.o,h.fa,h.fb,h.fd,h.fj,e.li h.ia,e.li h.ib,e _ _ h.d,e _ _ h.j,h.bj.hx e,h.al,h.bl⟩
theorem mR(h1:lo "self" =aa (.ref s))(h2:H[s]? =aa (.inst fs))(h3:fs x=aa v)(q:Q v H):eG x (eN "self") lo H Q:=Lf.mk h1 (Lf.mk rfl (Lf.mk (by rw[h2];rfl) (Lf.mk h3 q)))
theorem fK:∀ l:Nv,(l.all λp=>p.2.isNone)=ag->look l=lo0
 | [],_=>rfl
 | (y,u)::r,h=>by
  rw[List.all_cons,Bool.and_eq_true]at h
  funext x
  show(match ((y,u)::r).lookup x with |some o=>o |none=>none)=none
  rw[dJ]
  by_cases q:x=y
  ·rw[aw q];exact Option.isNone_iff_eq_none.mp h.1
  ·rw[aq q];exact congrFun (fK r h.2) x
theorem aBn(h:f lo H λv H1=>g v lo H1 λlo' H2=>K .next lo' H2):bX f g lo H K:=h
theorem d0(h:f lo H λv H1=>K .next (upd lo x v) H1):bF x f lo H K:=h
theorem aF3(h:f lo H λ_ H1=>K .next lo H1):aZ f lo H K:=h
theorem sRet_i(h:f lo H λv H1=>K (.ret v) lo H1):dX f lo H K:=h
theorem aI(h:f lo H (bN g K)):aB f g lo H K:=h
theorem eM(h:t lo H λb H1=>bif b then f lo H1 K else g lo H1 K):sIf t f g lo H K:=h
theorem oO(h:g lo H λvs H1=>vs.length<100/\Q (.tup vs) H1):bD g lo H Q:=h
theorem aP(h:f lo H λv H1=>g lo H1 λvs H2=>Q (v::vs) H2):esC f g lo H Q:=h
theorem b8(h:Q [] H):esN lo H Q:=h
theorem bA(h:f1 lo H λa H1=>f2 lo H1 λb H2=>Lp (g a b H2) Q):aA g f1 f2 lo H Q:=h
theorem bV(h:fs lo H λvs H1=>g vs H1 Q):aK g fs lo H Q:=h
theorem cL(h:Q v H):eK v lo H Q:=h
theorem aY(e:lo x=aa v)(h:Q v H):eN x lo H Q:=Lf.mk e h
theorem Lp.mk(e:o=aa (v,H))(h:Q v H):Lp o Q:=Lf.mk e h
theorem bd_i(h:f lo H λa H1=>Lf a.rf λi=>Lf H1[i]? λm=>ok m=ag/\Q (mk i) H1):eBd mk ok f lo H Q:=h
theorem vM{K:ItK C}{fi:IF K}(h:fi lo H λit H1=>∃ n,cZ K tgt bf n it lo H1 Q):jV K fi tgt bf lo H Q:=h
def fE(s ra rb rd rj nt g:ae V)(al ah bl bh:Int)(bi bj bs i o2 o3 j k:ae V):Nv:=[("self",s),("alo",aa (.int al)),("ahi",aa (.int ah)),("blo",aa (.int bl)),("bhi",aa (.int bh)),("a",ra),("b",rb),("b2j",rd),("isbjunk",rj),("besti",bi),("bestj",bj),("bestsize",bs),("j2len",g),("nothing",nt),
  ("i",i),("j2lenget",o2),("newj2len",o3),("j",j),("k",k)]
def fN:Nv:=[("self",none),("alo",none),("ahi",none),("blo",none),("bhi",none),("a",none),("b",none),("b2j",none),("isbjunk",none),("besti",none),("bestj",none),("bestsize",none),("j2len",none),("nothing",none),
  ("i",none),("j2lenget",none),("newj2len",none),("j",none),("k",none)]
theorem flm_in(s al ah bl bh):loB ["self","alo","ahi","blo","bhi"] [s,.int al,.int ah,.int bl,.int bh] lo0=look (fE (aa s) none none none none none none al ah bl bh none none none none none none none none):=by
 rw[<-fK fN ⋯]
 show upd (upd (upd (upd (upd (look fN) "self" s) "alo" (.int al)) "ahi" (.int ah)) "blo" (.int bl)) "bhi" (.int bh)=_
 rw[aD,aD,aD,aD,aD]
 kernel_rfl
theorem flm_1{rd:Nat}(h:SM H s ra rb rd rj n fs f a b)(k:K .next (look (fE (aa (.ref s)) (aa (.ref ra)) (aa (.ref rb)) (aa (.ref rd)) (aa (.scon rj)) none none al ah bl bh none none none none none none none none)) H):cR X (look (fE (aa (.ref s)) none none none none none none al ah bl bh none none none none none none none none)) H K:=by
 delta cR
 refine aBn (oO (aP (mR ⋯ h.o h.fa (aP (mR ⋯ h.o h.fb (aP (mR ⋯ h.o h.fd (aP (bd_i (mR ⋯ h.o h.fj (Lf.mk rfl (Lf.mk h.j ⟨rfl,b8 ⟨Nat.lt_of_sub_eq_succ rfl,kch (B:=(4=4/\K .next (upd (upd (upd (upd (look (fE (aa (.ref s)) none none none none none none al ah bl bh none none none none none none none none)) "a" (.ref ra)) "b" (.ref rb)) "b2j" (.ref rd)) "isbjunk" (.scon rj)) H)) ⋯ ⟨rfl,?_⟩⟩⟩))))))))))))
 rw[aD,aD,aD,aD]
 exact kch ⋯ k
structure FC where
 s:Nat
 ra:Nat
 rb:Nat
 rd:Nat
 rj:Nat
 nt:Nat
 w:Wd
def fL(c:FC)(g:Nat)(bi bj bs:Int)(i o2 o3 j k:ae V):Lo:=look (fE (aa (.ref c.s)) (aa (.ref c.ra)) (aa (.ref c.rb)) (aa (.ref c.rd)) (aa (.scon c.rj)) (aa (.ref c.nt)) (aa (.ref g)) c.w.al c.w.ah c.w.bl c.w.bh (aa (.int bi)) (aa (.int bj)) (aa (.int bs)) i o2 o3 j k)
def zK(C:Cx):SF:=aB (bF "j2lenget" (eBd .dget okD (eN "j2len"))) (aB (bF "newj2len" qG) (aB (jV (cC C) (iL (eGet (eN "b2j") (aA aO (eN "a") (eN "i")) (eN "nothing"))) (aN "j") sP) (aB (bF "j2len" (eN "newj2len")) (sK .next))))
theorem aHf{o2 o3:ae V}:aN "j" (.int j) (fL c g bi bj bs o1 o2 o3 o4 o5) H (λlo1 H1=>sP lo1 H1 K)=sP (fL c g bi bj bs o1 o2 o3 (aa (.int j)) o5) H K:=bg (λlo=>sP lo H K) (aD _ _ _)
theorem col_nf{o2 o3:ae V}:sP (fL c g bi bj bs o1 o2 o3 (aa (.int j)) o5) H K= (bif decide (j<c.w.bl) then K .cont (fL c g bi bj bs o1 o2 o3 (aa (.int j)) o5) H else bif decide (j>=c.w.bh) then K .brk (fL c g bi bj bs o1 o2 o3 (aa (.int j)) o5) H else colB3 (fL c g bi bj bs o1 o2 o3 (aa (.int j)) o5) H K):=by kernel_rfl
theorem wF{i:Nat}(h:H[i]? =aa (.dict n f)):H[i]?.bind MO.dct=aa (n,f):=by rw[h];rfl
theorem col3(hg:H[g]? =aa (.dict n f))(hn:H[gn]? =aa (.dict m fn))(hm:m<1000000)(hk:(f (j-1)).getD (.int 0)= .int k)(h:aEu (fL c g bi bj bs (aa (.int x)) (aa (.dget g)) (aa (.ref gn)) (aa (.int j)) (aa (.int (k+1)))) (H.set gn (.dict (m+1) (dput fn j (.int (k+1))))) K):colB3 (fL c g bi bj bs (aa (.int x)) (aa (.dget g)) (aa (.ref gn)) (aa (.int j)) o5) H K:=by
 refine kch (B:=Lf (H[g]?.bind MO.dct) λd=>Lp (aL ((d.2 (j-1)).getD (.int 0)) (.int 1) H) λv H1=>Lf (tU (.ref gn) (.int j) v H1) λH3=>aEu (upd (fL c g bi bj bs (aa (.int x)) (aa (.dget g)) (aa (.ref gn)) (aa (.int j)) o5) "k" v) H3 K) ⋯ (Lf.mk (wF hg) (Lp.mk (by rw[hk];rfl) (Lf.mk (p:=H.set gn (.dict (m+1) (dput fn j (.int (k+1))))) (rwL hn (aw hm):H[gn]?.bind (setO H gn j (.int (k+1)))=_) ?_)))
 ·delta fL
  rw[aD]
  exact h
theorem col4{o2 o3:ae V}(h:K .next (fL c g (if bs<k then x-k+1 else bi) (if bs<k then j-k+1 else bj) (if bs<k then k else bs) (aa (.int x)) o2 o3 (aa (.int j)) (aa (.int k))) H):aEu (fL c g bi bj bs (aa (.int x)) o2 o3 (aa (.int j)) (aa (.int k))) H K:=by
 refine kch (B:=(bif decide (k>bs) then((3<100)/\3=3/\K .next (upd (upd (upd (fL c g bi bj bs (aa (.int x)) o2 o3 (aa (.int j)) (aa (.int k))) "bestsize" (.int k)) "bestj" (.int (j-k+1))) "besti" (.int (x-k+1))) H)
  else K .next (fL c g bi bj bs (aa (.int x)) o2 o3 (aa (.int j)) (aa (.int k))) H)) ⋯ ?_
 by_cases q:bs<k
 ·rw[aw q,aw q,aw q]at h
  refine rwL (show decide (k>bs)=ag from ao q) ⟨by decide,rfl,?_⟩
  delta fL
  rw[aD,aD,aD]
  exact h
 ·rw[aq q,aq q,aq q]at h
  exact rwL (show decide (k>bs)=af from bc q) h
inductive CI(a b:ac Int)(c:FC)(g gn:Nat)(x v:Int)(Hr:MH)(rest:ac V)(lo:Lo)(H:MH):Prop
 |mk {js:ac Int}{y bi bj bs:Int}{m:Nat}{fn:Int->ae V}{gi:Int->ae Int}{o4 o5:ae V} (er:rest=js.map .int) (el:lo=fL c g bi bj bs (aa (.int x)) (aa (.dget g)) (aa (.ref gn)) o4 o5) (hx:Hx Hr H) (hn:H[gn]? =aa (.dict m fn))
   (hm:m+js.length<1000000) (hf:∀ c,fn c=(gi c).map V.int) (row:Row a b c.w x (max c.w.bl y) gi) (bu:BU a b c.w x (max c.w.bl y) bi bj bs) (ix:Idx b v y js) (yb:y<=c.w.bh):CI a b c g gn x v Hr rest lo H
inductive CE(a b:ac Int)(c:FC)(g gn:Nat)(x:Int)(Hr:MH)(lo:Lo)(H:MH):Prop
 |mk {bi bj bs:Int}{m:Nat}{fn:Int->ae V}{gi:Int->ae Int}{o4 o5:ae V} (el:lo=fL c g bi bj bs (aa (.int x)) (aa (.dget g)) (aa (.ref gn)) o4 o5) (hx:Hx Hr H) (hn:H[gn]? =aa (.dict m fn)) (hf:∀ c,fn c=(gi c).map V.int)
   (row:Row a b c.w x c.w.bh gi) (bu:BU a b c.w x c.w.bh bi bj bs):CE a b c g gn x Hr lo H
theorem CE.of(el:lo=fL c g bi bj bs (aa (.int x)) (aa (.dget g)) (aa (.ref gn)) o4 o5)(hx:Hx Hr H)(hn:H[gn]? =aa (.dict m fn))(hf:∀ c,fn c=(gi c).map V.int)(row:Row a b c.w x (max c.w.bl y) gi)(bu:BU a b c.w x (max c.w.bl y) bi bj bs)(hn2:∀ z,y<=z->z<c.w.bh->av b z≠av a x)(hb:c.w.bl<=c.w.bh)(yb:y<=c.w.bh):CE a b c g gn x Hr lo H:=by
 exact .mk el hx hn hf (row.skip (Int.max_le.mpr ⟨hb,yb⟩) λz h1 h2 h3 h4=>hn2 z (bw (Int.le_max_right _ _) h1) h2 h4.symm) (bu.skip (Int.max_le.mpr ⟨hb,yb⟩) λz h1 h2 h3 h4 h5=>hn2 z (bw (Int.le_max_right _ _) h1) h2 h5.symm)
theorem Row.pos(h:Row a b w x y g)(c:Int):0<=(g c).getD 0:=by
 have:=h c
 split at this
 ·exact xEA this λk e s=>rwL e s.k0
 ·exact rwL this (Int.le_refl _)
theorem aEt{c:FC}(hg:Hr[g]? =aa (.dict n f))(hf0:∀ c,f c=(g0 c).map V.int)(row0:Row a b c.w (x-1) c.w.bh g0)(hgn:Hr[gn]? =none)(hx0:c.w.al<=x)(hx1:x<c.w.ah)(hb:c.w.bl<=c.w.bh)(hbh:c.w.bh<=b.length)(hv:v=av a x)(hr:LI Hr r js)(h:CI a b c g gn x v Hr (js.map .int) lo H)(hQ:∀ {lo H},CE a b c g gn x Hr lo H->Q .next lo H):cZ (cC C) (aN "j") sP ((js.map V.int).length+1) (r,0) lo H Q:=by
 subst hv
 refine fV (CI a b c g gn x (av a x) Hr) (λh=>?_) (λh=>?_) (λh G=>?_) _ 0 rfl h
 ·cases h with |mk _ _ hx=>exact hx.li hr
 ·cases h with
  |mk er el hx hn hm hf row bu ix yb=>
   cases List.map_eq_nil_iff.mp er.symm
   cases ix with
   |nil ix=>
   exact hQ (CE.of el hx hn hf row bu (λz h1 h2=>ix z h1 (iy h2 hbh)) hb yb)
 ·cases h with
  | @mk js y bi bj bs m fn gi o4 o5 er el hx hn hm hf row bu ix yb=>
   refine bZ (List.map_eq_cons_iff.mp er.symm) λj js' e1 e2 e3=>?_
   subst e1 e2 e3
   refine rwL el (kch aHf (kch col_nf ?_))
   have nn:=ix.no
   cases ix with
   |cons h1 hl e _ ix=>
   by_cases q:j<c.w.bl
   ·refine rwL (ao q) (G.ct (.mk rfl rfl hx hn (Nat.lt_of_succ_lt hm) hf ?_ ?_ ix (bw (Int.add_one_le_of_lt q) hb)))
    ·rw[on (Int.add_one_le_of_lt q)]
     rwa [on (oe (Int.lt_of_le_of_lt h1 q))]at row
    ·rw[on (Int.add_one_le_of_lt q)]
     rwa [on (oe (Int.lt_of_le_of_lt h1 q))]at bu
   ·rw[bc q]
    by_cases q2:j>=c.w.bh
    ·exact rwL (ao q2) (G.br (hQ (CE.of rfl hx hn hf row bu (λz h1 h2=>nn z h1 (iy h2 q2)) hb yb)))
    ·rw[bc q2]
     have q:=mo.mp q
     have q2:=Int.not_le.mp q2
     have sf:=row0.next hx0 q q2 e.symm
     have hk:(f (j-1)).getD (.int 0)= .int ((g0 (j-1)).getD 0):=by rw[hf0];cases g0 (j-1)<;>rfl
     refine col3 (hx _ _ hg) hn (du (ly _ _) hm) hk (col4 (G.nx (.mk rfl rfl (hx.set hgn) (by rw[bn (List.getElem?_eq_some_iff.mp hn).1]) ?_ (gi:=λc=>if c=j then aa ((g0 (j-1)).getD 0+1) else gi c) ?_ ?_ ?_ ix (Int.add_one_le_of_lt q2))))
     ·exact du (Nat.le_of_eq (Nat.add_right_comm _ _ _)) hm
     ·intro z
      delta dput
      by_cases qz:z=j
      ·rw[aw qz,aw qz];rfl
      ·rw[aq qz,aq qz];exact hf z
     ·exact rwL (Int.max_eq_right (bw q (Int.le_add_one (Int.le_refl j)))) ((row.skip (Int.max_le.mpr ⟨q,h1⟩) λz h1 h2 h3 h4=>nn z (bw (Int.le_max_right _ _) h1) h2 h4.symm).step q hx0 e.symm sf)
     ·exact rwL (Int.max_eq_right (bw q (Int.le_add_one (Int.le_refl j)))) ((bu.skip (Int.max_le.mpr ⟨q,h1⟩) λz h1 h2 h3 h4 h5=>nn z (bw (Int.le_max_right _ _) h1) h2 h5.symm).step sf hx1 q2 (Int.lt_add_one_of_le (Row.pos row0 _)))
theorem cP{x:Int}{n:Nat}(h0:0<=x)(h1:x<n):iu x n=aa x.toNat:=by
 unfold iu
 exact rwL (aq (mo.mpr h0)) (aw (by rw[ao h0,ao h1];rfl))
theorem av_get{l:ac Int}{x:Int}(h0:0<=x)(h1:x<l.length):(l.map V.int)[x.toNat]? =aa (.int (av l x)):=by
 delta av
 rw[gp,dq,az ((Int.toNat_lt h0).mpr h1)];rfl
theorem hN{x:Int}(h:LI H r l)(h0:0<=x)(h1:x<l.length)(hl:l.length<1000000):aO (.ref r) (.int x) H=aa (.int (av l x),H):=by
 show((lst H (.ref r)).bind (at_ x)).map _=_
 rw[h]
 show(at_ x (l.map V.int)).map _=_
 delta at_
 rw[aw ⟨A165 h0,A166 h1 hl⟩,ay,cP h0 h1]
 show((l.map V.int)[x.toNat]?).map _=_
 rw[av_get h0 h1];rfl
theorem Idx.len(h:Idx b v y js)(hy:y<=b.length):y+js.length<=b.length:=by
 induction h with
 |nil _=>simpa using hy
 |cons h1 hl _ _ _ ih=>
  exact rwL cq (A167 h1 (ih (Int.add_one_le_of_lt hl)))
theorem aF5{o2 o3:ae V}:aN "i" (.int x) (fL c g bi bj bs o1 o2 o3 o4 o5) H (λlo1 H1=>zK C lo1 H1 K)=zK C (fL c g bi bj bs (aa (.int x)) o2 o3 o4 o5) H K:=bg (λlo=>zK C lo H K) (aD _ _ _)
def rowB3(C:Cx):SF:=aB (jV (cC C) (iL (eGet (eN "b2j") (aA aO (eN "a") (eN "i")) (eN "nothing"))) (aN "j") sP) (aB (bF "j2len" (eN "newj2len")) (sK .next))
theorem row12{o2 o3:ae V}(hg:H[g]? =aa (.dict n f))(h:rowB3 C (fL c g bi bj bs (aa (.int x)) (aa (.dget g)) (aa (.ref H.length)) o4 o5) (H++[.dict 0 λ_=>Option.none]) K):zK C (fL c g bi bj bs (aa (.int x)) o2 o3 o4 o5) H K:=by
 refine kch (B:=Lf H[g]? λm=>okD m=ag/\rowB3 C (upd (upd (fL c g bi bj bs (aa (.int x)) o2 o3 o4 o5) "j2lenget" (.dget g)) "newj2len" (.ref H.length)) (H++[.dict 0 λ_=>Option.none]) K) ⋯ (Lf.mk hg ⟨rfl,?_⟩)
 delta fL
 rw[aD,aD]
 exact h
inductive RI(a b:ac Int)(c:FC)(H2:MH)(x:Int)(lo:Lo)(H:MH):Prop
 |mk {g n:Nat}{bi bj bs:Int}{f:Int->ae V}{g0:Int->ae Int}{o1 o2 o3 o4 o5:ae V} (el:lo=fL c g bi bj bs o1 o2 o3 o4 o5) (hx:Hx H2 H) (hg:H[g]? =aa (.dict n f)) (hf:∀ c,f c=(g0 c).map V.int)
   (row:Row a b c.w (x-1) c.w.bh g0) (bu:BU a b c.w x c.w.bl bi bj bs) (hx0:c.w.al<=x):RI a b c H2 x lo H
theorem aBr(h:SM H2 c.s c.ra c.rb c.rd c.rj n fs f a b)(ht:LI H2 c.nt [])(w:WOk a b c.w)(hx1:x<c.w.ah)(I:RI a b c H2 x lo H)(G:GoK (RI a b c H2 (x+1)) Q K):aN "i" (.int x) lo H λlo1 H1=>zK C lo1 H1 K:=by
 cases I with
 | @mk g n0 bi bj bs f0 g0 o1 o2 o3 o4 o5 el hx hg hf row bu hx0=>
 refine rwL el (kch aF5 (row12 hg ?_))
 have hx':Hx H (H++[.dict 0 λ_=>Option.none]):=.app _ _
 have h':=h.hx (hx.trans hx')
 refine kch (B:=(∃ n g,(H++[MO.dict 0 λ_=>Option.none])[c.rd]? =aa (.dict n g))/\Lp (aO (.ref c.ra) (.int x) (H++[.dict 0 λ_=>Option.none])) λu H2=>Lf (Ti u) λv=>Lf (H2[c.rd]?.bind MO.dct) λp=>Lf ((p.2 v).getD (.ref c.nt)).rf λi=>(∃ vs,lst H2 (.ref i)=aa vs)/\
  ∃ n,cZ (cC C) (aN "j") sP n (i,0) (fL c g bi bj bs (aa (.int x)) (aa (.dget g)) (aa (.ref H.length)) o4 o5) H2 (bN (aB (bF "j2len" (eN "newj2len")) (sK .next)) K)) ⋯ ?_
 refine⟨⟨_,_,h'.d⟩,Lp.mk (hN h'.ia (bw w.a0 hx0) (iy hx1 w.a2) h'.al) (Lf.mk rfl (Lf.mk (wF h'.d) ?_))⟩
 have fin:∀ {lo H3},CE a b c g H.length x H lo H3->bN (aB (bF "j2len" (eN "newj2len")) (sK .next)) K .next lo H3:=λ{lo H3} e=>by
  cases e with
  | @mk bi bj bs m fn gi o4 o5 el hx3 hn hf3 row3 bu3=>
  refine rwL el (kch (B:=K .next (upd (fL c g bi bj bs (aa (.int x)) (aa (.dget g)) (aa (.ref H.length)) o4 o5) "j2len" (.ref H.length)) H3) ⋯ (G.nx (.mk (aD _ _ _) (hx.trans hx3) hn hf3 ?_ bu3.row (bw hx0 (Int.le_add_one (Int.le_refl _))))))
  rw[Int.add_sub_cancel];exact row3
 have start:∀ {js:ac Int},Idx b (av a x) 0 js->CI a b c g H.length x (av a x) H (js.map .int) (fL c g bi bj bs (aa (.int x)) (aa (.dget g)) (aa (.ref H.length)) o4 o5) (H++[.dict 0 λ_=>Option.none]):=λ{js} ix=>
  .mk rfl rfl hx' (bC _ _) (by have:=ix.len (cj _);have:=h.bl;omega) (λ_=>rfl) (.zero (.inr (Int.max_le.mpr ⟨Int.le_refl _,w.b0⟩))) (by exact rwL (on w.b0) bu) ix (bw w.b0 w.b1)
 have go:∀ {r:Nat}{js:ac Int},LI H r js->Idx b (av a x) 0 js->Lf (V.ref r).rf λi=>(∃ vs,lst (H++[MO.dict 0 λ_=>Option.none]) (.ref i)=aa vs)/\
   ∃ n,cZ (cC C) (aN "j") sP n (i,0) (fL c g bi bj bs (aa (.int x)) (aa (.dget g)) (aa (.ref H.length)) o4 o5) (H++[.dict 0 λ_=>Option.none]) (bN (aB (bF "j2len" (eN "newj2len")) (sK .next)) K):=λhr ix=>
  ⟨⟨_,hx'.li hr⟩,_,aEt hg hf row (aM H) hx0 hx1 w.b1 w.b2 rfl hr (start ix) fin⟩
 rcases h.bj (av a x) with ⟨e,ix⟩ |⟨r,js,e,hr,ix⟩
 ·exact(rwL e (go (hx.li ht) ix):Lf ((f (av a x)).getD (.ref c.nt)).rf _)
 ·exact(rwL e (go (hx.li hr) ix):Lf ((f (av a x)).getD (.ref c.nt)).rf _)
theorem aHb(H:MH)(x y:Int):eqv H (.int x) (.int y)=aa (decide (x=y)):=by kernel_rfl
theorem flm_26(R:SF){rd:Nat}(h:R (fL ⟨s,ra,rb,rd,rj,H.length+1,⟨al,ah,bl,bh⟩⟩ H.length al bl 0 none none none none none) ((H++[.dict 0 λ_=>Option.none])++[.list []]) K):aB (eE X) (aB (eD X) (aB (eB X) (aB (eA X) (aB (d9 X) R)))) (look (fE (aa (.ref s)) (aa (.ref ra)) (aa (.ref rb)) (aa (.ref rd)) (aa (.scon rj)) none none al ah bl bh none none none none none none none none)) H K:=by
 refine kch (B:=(3<100/\3=3/\R (upd (upd (upd (upd (upd (look (fE (aa (.ref s)) (aa (.ref ra)) (aa (.ref rb)) (aa (.ref rd)) (aa (.scon rj)) none none al ah bl bh none none none none none none none none)) "bestsize" (.int 0)) "bestj" (.int bl)) "besti" (.int al)) "j2len" (.ref H.length)) "nothing" (.ref (H++[MO.dict 0 λ_=>Option.none]).length)) ((H++[.dict 0 λ_=>Option.none])++[.list []]) K)) ⋯ ⟨by decide,rfl,?_⟩
 rw[aD,aD,aD,aD,aD,show (H++[MO.dict 0 λ_=>Option.none]).length=H.length+1 from by simp]
 exact h
theorem flm_7(h:SM H c.s c.ra c.rb c.rd c.rj n fs f a b)(ht:LI H c.nt [])(hg:H[g]? =aa (.dict 0 λ_=>Option.none))(w:WOk a b c.w)(k:∀ {g bi bj bs o1 o2 o3 o4 o5 H'},Hx H H'->Best a b c.w bi bj bs->K .next (fL c g bi bj bs o1 o2 o3 o4 o5) H'):d8 X (fL c g c.w.al c.w.bl 0 none none none none none) H K:=by
 refine kch (B:=(rOk c.w.al c.w.ah 1=ag/\∃ n,cZ (mF C) (aN "i") (zK C) n (c.w.al,tP c.w.al c.w.ah 1,1) (fL c g c.w.al c.w.bl 0 none none none none none) H K)) ⋯ ⟨?_,_,yE (RI a b c H) (λr=>?_) (λhx r G=>aBr h ht w hx r G) _ _ ?_ (.mk rfl (.refl H) hg (λ_=>rfl) (.zero (.inl (Int.sub_one_lt_of_le (Int.le_refl _)))) (.start w.a1 w.b1) (Int.le_refl _))⟩
 ·have:=w.a0;have:=w.a1;have:=w.a2;have:=h.al
  delta rOk
  rw[ao (by omega: -1000000<c.w.al),ao (by omega:c.w.al<1000000),ao (by omega: -1000000<c.w.ah),ao (by omega:c.w.ah<1000000)]
  rfl
 ·cases r with
  |mk el hx hg hf row bu hx0=>
   exact rwL el (k hx bu.done)
 ·exact(A168 w.a1:c.w.al+((c.w.ah-c.w.al).toNat:Int)=c.w.ah)
theorem ab_eq{i j:Int}{Q:dj->MH->Prop}(ha:LI H ra a)(hb:LI H rb b)(al:a.length<1000000)(bl:b.length<1000000)(i0:0<=i)(i1:i<a.length)(j0:0<=j)(j1:j<b.length)(q:Q (decide (av a i=av b j)) H):Lp (aO (.ref ra) (.int i) H) λa H2=>Lp (aO (.ref rb) (.int j) H2) λb H3=>Lp (aS id a b H3) λv H4=>Lf (tr v H4) λc=>Q c H4:=Lp.mk (hN ha i0 i1 al) (Lp.mk (hN hb j0 j1 bl) (Lp.mk (v:=.bool (decide (av a i=av b j))) ⋯ (Lf.mk rfl q)))
theorem Best.left(h:Best a b w i j k)(hi:w.al<i)(hj:w.bl<j):av a (i-1)≠av b (j-1):=λe=>by
 have n:=h.n
 have i1:=n.i1;have j1:=n.j1;have k0:=n.k0
 have g:=h.g (i-1) (j-1) (k+1) ⟨A169 hi,A170 i1,A169 hj,A170 j1,A171 k0,λt h1 h2=>?_⟩ (A172 k0)
 ·rcases g with g |⟨g,_⟩<;>omega
 ·by_cases q:t=0
  ·rw[q,qa,qa];exact e
  ·exact rwL (show i-1+t=i+(t-1) from A175) (rwL (show j-1+t=j+(t-1) from A175) (n.m (t-1) (A173 h1 q) (A174 h2)))
theorem Best.right(h:Best a b w i j k)(hi:i+k<w.ah)(hj:j+k<w.bh):av a (i+k)≠av b (j+k):=λe=>by
 have n:=h.n
 have j0:=n.j0;have k0:=n.k0
 have g:=h.g i j (k+1) ⟨A176 n.i0,A177 hi,A176 j0,A177 hj,A171 k0,λt h1 h2=>?_⟩ (A172 k0)
 ·rcases g with g |⟨g,_⟩<;>omega
 ·by_cases q:t=k
  ·exact rwL q e
  ·exact n.m t h1 (A132 h2 q)
theorem flm_8{o2 o3:ae V}(h:SM H c.s c.ra c.rb c.rd c.rj n fs f a b)(w:WOk a b c.w)(B:Best a b c.w bi bj bs)(k:K .next (fL c g bi bj bs o1 o2 o3 o4 o5) H):d7 X (fL c g bi bj bs o1 o2 o3 o4 o5) H K:=by
 refine⟨1,kch (B:=(bif decide (bi>c.w.al) then bif decide (bj>c.w.bl) then Lp (aO (.ref c.rb) (.int (bj-1)) H) λv H1=>Lf ((one [v]).bind Ti) λk=>H1[c.rj]? =aa .eset/\
  (Lp (aO (.ref c.ra) (.int (bi-1)) H1) λa H2=>Lp (aO (.ref c.rb) (.int (bj-1)) H2) λb H3=>Lp (aS id a b H3) λv H4=>Lf (tr v H4) λt=>bif t then
   aB (bO ["besti","bestj","bestsize"] (bD (esC (aA b5 (eN "besti") (eK (.int 1))) (esC (aA b5 (eN "bestj") (eK (.int 1))) (esC (aA aL (eN "bestsize") (eK (.int 1))) esN))))) (sK .next) (fL c g bi bj bs o1 o2 o3 o4 o5) H4 (t7 (λ_ _ _=>fe) K)
   else K .next (fL c g bi bj bs o1 o2 o3 o4 o5) H4) else K .next (fL c g bi bj bs o1 o2 o3 o4 o5) H else K .next (fL c g bi bj bs o1 o2 o3 o4 o5) H)) ⋯ ?_⟩
 have j1:=B.n.j1;have k0:=B.n.k0;have a0:=w.a0;have a2:=w.a2;have b0:=w.b0;have b2:=w.b2
 by_cases q1:c.w.al<bi
 ·rw[ao q1,dy]
  by_cases q2:c.w.bl<bj
  ·rw[ao q2,dy]
   exact Lp.mk (hN h.ib (A178 b0 q2) (A179 j1 k0 b2) h.bl) (Lf.mk rfl ⟨h.j,ab_eq h.ia h.ib h.al h.bl (A178 a0 q1) (A179 B.n.i1 k0 a2) (A178 b0 q2) (A179 j1 k0 b2) (rwL (bc (B.left q1 q2)) k)⟩)
  ·rw[bc q2];exact k
 ·rw[bc q1];exact k
theorem flm_9{o2 o3:ae V}(h:SM H c.s c.ra c.rb c.rd c.rj n fs f a b)(w:WOk a b c.w)(B:Best a b c.w bi bj bs)(k:K .next (fL c g bi bj bs o1 o2 o3 o4 o5) H):d6 X (fL c g bi bj bs o1 o2 o3 o4 o5) H K:=by
 refine⟨1,kch (B:=(bif decide (bi+bs<c.w.ah) then bif decide (bj+bs<c.w.bh) then Lp (aO (.ref c.rb) (.int (bj+bs)) H) λv H1=>Lf ((one [v]).bind Ti) λk=>H1[c.rj]? =aa .eset/\
  (Lp (aO (.ref c.ra) (.int (bi+bs)) H1) λa H2=>Lp (aO (.ref c.rb) (.int (bj+bs)) H2) λb H3=>Lp (aS id a b H3) λv H4=>Lf (tr v H4) λt=>bif t then
   aB (zJ "bestsize" q8 (eK (.int 1))) (sK .next) (fL c g bi bj bs o1 o2 o3 o4 o5) H4 (t7 (λ_ _ _=>fe) K)
   else K .next (fL c g bi bj bs o1 o2 o3 o4 o5) H4) else K .next (fL c g bi bj bs o1 o2 o3 o4 o5) H else K .next (fL c g bi bj bs o1 o2 o3 o4 o5) H)) ⋯ ?_⟩
 have j0:=B.n.j0;have k0:=B.n.k0;have a0:=w.a0;have a2:=w.a2;have b0:=w.b0;have b2:=w.b2
 by_cases q1:bi+bs<c.w.ah
 ·rw[ao q1,dy]
  by_cases q2:bj+bs<c.w.bh
  ·rw[ao q2,dy]
   exact Lp.mk (hN h.ib (A180 j0 k0 b0) (A181 b2 q2) h.bl) (Lf.mk rfl ⟨h.j,ab_eq h.ia h.ib h.al h.bl (A180 B.n.i0 k0 a0) (A181 a2 q1) (A180 j0 k0 b0) (A181 b2 q2) (rwL (bc (B.right q1 q2)) k)⟩)
  ·rw[bc q2];exact k
 ·rw[bc q1];exact k
theorem flm_10{o2 o3:ae V}(h:SM H c.s c.ra c.rb c.rd c.rj n fs f a b)(w:WOk a b c.w)(B:Best a b c.w bi bj bs)(k:K .next (fL c g bi bj bs o1 o2 o3 o4 o5) H):dW X (fL c g bi bj bs o1 o2 o3 o4 o5) H K:=by
 refine⟨1,kch (B:=(bif decide (bi>c.w.al) then bif decide (bj>c.w.bl) then Lp (aO (.ref c.rb) (.int (bj-1)) H) λv H1=>Lf ((one [v]).bind Ti) λk=>H1[c.rj]? =aa .eset/\
  (K .next (fL c g bi bj bs o1 o2 o3 o4 o5) H1) else K .next (fL c g bi bj bs o1 o2 o3 o4 o5) H else K .next (fL c g bi bj bs o1 o2 o3 o4 o5) H)) ⋯ ?_⟩
 have j1:=B.n.j1;have k0:=B.n.k0;have b0:=w.b0;have b2:=w.b2
 by_cases q1:bi>c.w.al
 ·rw[ao q1,dy]
  by_cases q2:bj>c.w.bl
  ·rw[ao q2,dy]
   exact Lp.mk (hN h.ib (A178 b0 q2) (A179 j1 k0 b2) h.bl) (Lf.mk rfl ⟨h.j,k⟩)
  ·rw[bc q2];exact k
 ·rw[bc q1];exact k
theorem flm_11{o2 o3:ae V}(h:SM H c.s c.ra c.rb c.rd c.rj n fs f a b)(w:WOk a b c.w)(B:Best a b c.w bi bj bs)(k:K .next (fL c g bi bj bs o1 o2 o3 o4 o5) H):dV X (fL c g bi bj bs o1 o2 o3 o4 o5) H K:=by
 refine⟨1,kch (B:=(bif decide (bi+bs<c.w.ah) then bif decide (bj+bs<c.w.bh) then Lp (aO (.ref c.rb) (.int (bj+bs)) H) λv H1=>Lf ((one [v]).bind Ti) λk=>H1[c.rj]? =aa .eset/\
  (K .next (fL c g bi bj bs o1 o2 o3 o4 o5) H1) else K .next (fL c g bi bj bs o1 o2 o3 o4 o5) H else K .next (fL c g bi bj bs o1 o2 o3 o4 o5) H)) ⋯ ?_⟩
 have j0:=B.n.j0;have k0:=B.n.k0;have b0:=w.b0;have b2:=w.b2
 by_cases q1:bi+bs<c.w.ah
 ·rw[ao q1,dy]
  by_cases q2:bj+bs<c.w.bh
  ·rw[ao q2,dy]
   exact Lp.mk (hN h.ib (A180 j0 k0 b0) (A181 b2 q2) h.bl) (Lf.mk rfl ⟨h.j,k⟩)
  ·rw[bc q2];exact k
 ·rw[bc q1];exact k
theorem flm_ok{rd:Nat}(h:SM H s ra rb rd rj n fs f a b)(w:WOk a b ⟨al,ah,bl,bh⟩)(k:∀ {i j k H'},Hx H H'->Best a b ⟨al,ah,bl,bh⟩ i j k->Q (.mat i j k) H'):bQ X [.ref s,.int al,.int ah,.int bl,.int bh] H Q:=by
 refine⟨rfl,?_⟩
 show c8 X (loB ["self","alo","ahi","blo","bhi"] [.ref s,.int al,.int ah,.int bl,.int bh] lo0) H (kY Q)
 rw[flm_in]
 refine flm_1 X h (flm_26 X _ ?_)
 have e:=(Hx.app H [.dict 0 λ_=>Option.none]).trans (Hx.app _ [.list []])
 refine flm_7 X (h.hx e) ?_ ?_ w λ{g bi bj bs o1 o2 o3 o4 o5 H'} e1 B=>?_
 ·have:=kD (H++[.dict 0 λ_=>Option.none]) []
  rw[am]at this
  exact this
 ·exact Hx.app _ _ _ _ (bC H _)
 have h2:=(h.hx e).hx e1
 exact flm_8 X h2 w B (flm_9 X h2 w B (flm_10 X h2 w B (flm_11 X h2 w B (kch ⋯ (k (e.trans e1) B)))))
theorem aR{Q:Prop}(h:Q):bif af then P else Q:=h
theorem aW{Q:Prop}(h:P):bif ag then P else Q:=h
theorem aDc{s:Nat}(h:H[s]? =aa (.inst fs)):H[s]?.bind MO.ins=aa fs:=by rw[h];rfl
theorem aG(h:H[i]? =aa m)(m':MO):(H.set i m')[i]? =aa m':=by
 rw[bn (List.getElem?_eq_some_iff.mp h).1]
theorem aJ(h:H[j]? =aa m)(n:i≠j):(H.set i m')[j]? =aa m:=by
 exact rwL (ei n) h
def St(s:Nat)(x:Str)(v:V)(H:MH)(k:MH->Prop):Prop:=Lf (H[s]?.bind MO.ins) λfs=>k (H.set s (.inst (fput fs x v)))
def At(s:Nat)(x:Str)(H:MH)(k:V->Prop):Prop:=Lf (H[s]?.bind MO.ins) λfs=>Lf (fs x) k
theorem St.mk(h:H[s]? =aa (.inst fs))(q:k (H.set s (.inst (fput fs x v)))):St s x v H k:=Lf.mk (aDc h) q
theorem At.mk(h:H[s]? =aa (.inst fs))(e:fs x=aa v)(q:k v):At s x H k:=Lf.mk (aDc h) (Lf.mk e q)
def fs1(fs:Str->ae V)(r:Nat):Str->ae V:=fput (fput (fput fs "a" (.ref r)) "matching_blocks" .none) "opcodes" .none
theorem tF(h:H[s]? =aa (.inst fs))(ha:fs "a" =aa .none)(k:Q .none (H.set s (.inst (fs1 fs ra)))):dD X [.ref s,.ref ra] H Q:=by
 refine kch (B:=(2=2/\At s "a" H λv=>Lp (oIs id (.ref ra) v H) λv H1=>Lf (tr v H1) λb=>bif b then Q .none H1 else St s "a" (.ref ra) H1 λH2=>St s "matching_blocks" .none H2 λH3=>St s "opcodes" .none H3 λH4=>Q .none H4)) ⋯
  ⟨rfl,At.mk h ha (Lp.mk rfl (Lf.mk rfl (aR (St.mk h (St.mk (aG h _) (St.mk (aG (aG h _) _) ?_))))))⟩
 rw[ms,ms];exact k
def fs2(fs:Str->ae V)(r:Nat):Str->ae V:=fput (fput (fput (fput fs "b" (.ref r)) "matching_blocks" .none) "opcodes" .none) "fullbcount" .none
theorem tD(h:H[s]? =aa (.inst fs))(ha:fs "b" =aa .none)(k:cA X [.ref s] (H.set s (.inst (fs2 fs rb))) λ_ H'=>Q .none H'):dB X [.ref s,.ref rb] H Q:=by
 refine kch (B:=(2=2/\At s "b" H λv=>Lp (oIs id (.ref rb) v H) λv H1=>Lf (tr v H1) λb=>bif b then Q .none H1 else St s "b" (.ref rb) H1 λH2=>St s "matching_blocks" .none H2 λH3=>St s "opcodes" .none H3 λH4=>St s "fullbcount" .none H4 λH5=>(∃ ff,H5[s]? =aa (.inst ff))/\cA X [.ref s] H5 λ_ H'=>Q .none H')) ⋯
  ⟨rfl,At.mk h ha (Lp.mk rfl (Lf.mk rfl (aR (St.mk h (St.mk (aG h _) (St.mk (aG (aG h _) _) (St.mk (aG (aG (aG h _) _) _) ?_)))))))⟩
 rw[ms,ms,ms];exact⟨⟨_,aG h _⟩,k⟩
theorem is_at{K:dj->MH->Prop}(h:lst H (.ref r)=aa vs)(n:r≠r0)(k:K af H):Lp (oIs id (.ref r) (.ref r0) H) λv H1=>Lf (tr v H1) λb=>K b H1:=Lp.mk (by
  show(isV (.ref r) (.ref r0) H).map _=_
  have:isV (.ref r) (.ref r0) H=aa af:=by
   show(if r=r0 then aa ag else(lst H (.ref r)).map λ_=>af)=_
   rw[aq n,h];rfl
  rw[this];rfl) (Lf.mk rfl k)
theorem xU{K:dj->MH->Prop}(k:K ag H):Lp (oIs id (.ref r) (.ref r) H) λv H1=>Lf (tr v H1) λb=>K b H1:=Lp.mk (by
  show(isV (.ref r) (.ref r) H).map _=_
  have:isV (.ref r) (.ref r) H=aa ag:=by
   exact aw rfl
  rw[this];rfl) (Lf.mk rfl k)
theorem pH(h:H[s]? =aa (.inst fs))(ha:fs "a" =aa (.ref r0))(hl:lst H (.ref ra)=aa vs)(n:ra≠r0)(k:Q .none (H.set s (.inst (fs1 fs ra)))):dD X [.ref s,.ref ra] H Q:=by
 refine kch (B:=(2=2/\At s "a" H λv=>Lp (oIs id (.ref ra) v H) λv H1=>Lf (tr v H1) λb=>bif b then Q .none H1 else St s "a" (.ref ra) H1 λH2=>St s "matching_blocks" .none H2 λH3=>St s "opcodes" .none H3 λH4=>Q .none H4)) ⋯
  ⟨rfl,At.mk h ha (is_at hl n (aR (St.mk h (St.mk (aG h _) (St.mk (aG (aG h _) _) ?_)))))⟩
 rw[ms,ms];exact k
theorem pG(h:H[s]? =aa (.inst fs))(ha:fs "a" =aa (.ref ra))(k:Q .none H):dD X [.ref s,.ref ra] H Q:=kch (B:=(2=2/\At s "a" H λv=>Lp (oIs id (.ref ra) v H) λv H1=>Lf (tr v H1) λb=>bif b then Q .none H1 else St s "a" (.ref ra) H1 λH2=>St s "matching_blocks" .none H2 λH3=>St s "opcodes" .none H3 λH4=>Q .none H4)) ⋯
  ⟨rfl,At.mk h ha (xU (aW k))⟩
theorem pF(h:H[s]? =aa (.inst fs))(ha:fs "b" =aa (.ref r0))(hl:lst H (.ref rb)=aa vs)(n:rb≠r0)(k:cA X [.ref s] (H.set s (.inst (fs2 fs rb))) λ_ H'=>Q .none H'):dB X [.ref s,.ref rb] H Q:=by
 refine kch (B:=(2=2/\At s "b" H λv=>Lp (oIs id (.ref rb) v H) λv H1=>Lf (tr v H1) λb=>bif b then Q .none H1 else St s "b" (.ref rb) H1 λH2=>St s "matching_blocks" .none H2 λH3=>St s "opcodes" .none H3 λH4=>St s "fullbcount" .none H4 λH5=>(∃ ff,H5[s]? =aa (.inst ff))/\cA X [.ref s] H5 λ_ H'=>Q .none H')) ⋯
  ⟨rfl,At.mk h ha (is_at hl n (aR (St.mk h (St.mk (aG h _) (St.mk (aG (aG h _) _) (St.mk (aG (aG (aG h _) _) _) ?_))))))⟩
 rw[ms,ms,ms];exact⟨⟨_,aG h _⟩,k⟩
theorem pE(h:H[s]? =aa (.inst fs))(ha:fs "b" =aa (.ref rb))(k:Q .none H):dB X [.ref s,.ref rb] H Q:=kch (B:=(2=2/\At s "b" H λv=>Lp (oIs id (.ref rb) v H) λv H1=>Lf (tr v H1) λb=>bif b then Q .none H1 else St s "b" (.ref rb) H1 λH2=>St s "matching_blocks" .none H2 λH3=>St s "opcodes" .none H3 λH4=>St s "fullbcount" .none H4 λH5=>(∃ ff,H5[s]? =aa (.inst ff))/\cA X [.ref s] H5 λ_ H'=>Q .none H')) ⋯
  ⟨rfl,At.mk h ha (xU (aW k))⟩
def js(b:ac Int)(v:Int):Nat->ac Int
 |0=>[]
 |p+1=>js b v p++if av b p=v then [(p:Int)] else []
theorem js_c(b:ac Int)(v:Int)(p:Nat):js b v (p+1)=js b v p++if av b p=v then [(p:Int)] else []:=rfl
theorem Idx.low{js:ac Int}{lo:Int}(h:Idx b v (lo+1) js)(e:av b lo≠v):Idx b v lo js:=by
 have go:∀ c:Int,lo<=c->(lo+1<=c->av b c≠v)->av b c≠v:=λc h1 h2=>by
  rcases Int.lt_or_eq_of_le h1 with q |q
  ·exact h2 q
  ·exact q▸e
 cases h with
 |nil n=>exact .nil λc h1 h2=>go c h1 λq=>n c q h2
 |cons h1 h2 h3 n r=>exact .cons (bw (Int.le_add_one (Int.le_refl _)) h1) h2 h3 (λc a b=>go c a λq=>n c q b) r
theorem aC9:∀ {p:Nat}{rest:ac Int},p<=b.length->Idx b v p rest->Idx b v 0 (js b v p++rest):=λ{n}=>by
 induction n with
 |zero=>
  intro _ _ h
  exact h
 |succ p ih=>
  intro rest hp h
  rw[js_c,dz]
  refine ih (Nat.le_of_succ_le hp) ?_
  by_cases q:av b p=v
  ·exact rwL (aw q) (.cons (Int.le_refl _) (Int.ofNat_lt.mpr hp) q (λc h1 h2=>ba h2 (mo.mpr h1)) h)
  ·rw[aq q]
   exact Idx.low h q
structure Bk(B:Nat->ae MO)(s rd:Nat)(b:ac Int)(p:Nat)(f:Int->ae V)(H:MH):Prop where
 g:∀ v,(f v=none/\js b v p= [])\/∃ r,f v=aa (.ref r)/\H[r]? =aa (.list ((js b v p).map V.int))/\B r=none/\r≠s/\r≠rd
 i:∀ v v' r,f v=aa (.ref r)->f v'=aa (.ref r)->v=v'
theorem Hx.fresh(h:Hx B H):B[H.length]? =none:=by
 cases e:B[H.length]? with
 |none=>rfl
 |some m=>exact ba (h _ _ e) (by rw[aM];nofun)
theorem cI(h:H[i]? =aa m):H.length≠i:=λq=>by rw[<-q,aM]at h;cases h
def fB(s rb rd i elt ind:ae V):Nv:=[("self",s),("b",rb),("b2j",rd),("i",i),("elt",elt),("indices",ind)]
inductive CBI(B:Nat->ae MO)(s rb rd:Nat)(fs:Str->ae V)(b:ac Int)(p:Nat)(lo:Lo)(H:MH):Prop
 |mk {n:Nat}{f:Int->ae V}{o1 o2 o3:ae V} (el:lo=look (fB (aa (.ref s)) (aa (.ref rb)) (aa (.ref rd)) o1 o2 o3)) (hx:Hp B H) (ho:H[s]? =aa (.inst fs)) (hd:H[rd]? =aa (.dict n f)) (hn:n<=p) (bk:Bk B s rd b p f H):CBI B s rb rd fs b p lo H
theorem xF{P:ae (V×(Nat×Nat))->MH->Prop}{p:Nat}(hl:lst H (.ref r)=aa vs)(e:vs[p]? =o)(h:P (o.map λv=>(.tup [.int p,v],(r,p+1))) H):(nG C).nx (r,p) H P:=Lf.mk hl (by exact rwL e h)
theorem uL(Inv:Nat->Lo->MH->Prop)(hl:∀ {p lo H},Inv p lo H->lst H (.ref r)=aa vs)(he:∀ {lo H},Inv vs.length lo H->Q .next lo H)(hs:∀ {p v lo H K},vs[p]? =aa v->Inv p lo H->GoK (Inv (p+1)) Q K->tgt (.tup [.int p,v]) lo H λlo1 H1=>body lo1 H1 K):∀ (k p:Nat){lo:Lo}{H:MH},p+k=vs.length->Inv p lo H->cZ (nG C) tgt body (k+1) (r,p) lo H Q:=λn=>by
 induction n with
 |zero=>
  refine λp lo H hd h=>(xF (hl h) (eu (Nat.le_of_eq hd.symm)) ?_)
  subst hd
  exact he h
 |succ k ih=>
  exact λp lo H hd h=>(xF (hl h) (az (A106 hd)) (hs (az (A106 hd)) h (.loop λh'=>ih (p+1) (A109 hd) h')))
def chT:AF:=cG 2 (asC (aN "i") (asC (aN "elt") asN))
theorem Bk.old{rd:Nat}(h:Bk B s rd b p f H)(hx:Hx H G)(e:f (av b p)=aa (.ref r))(hs:H[s]? =aa (.inst fs)):Bk B s rd b (p+1) f (G.set r (.list ((js b (av b p) p++[(p:Int)]).map V.int))):=by
 refine⟨λv=>?_,h.i⟩
 rw[js_c]
 by_cases q:av b p=v
 ·refine rwR q (rwL (aw rfl) ?_)
  rcases h.g (av b p) with ⟨e1,_⟩ |⟨r',e1,h1,h2⟩
  ·exact cyM (rwR e e1)
  ·cases (e▸e1)
   exact .inr ⟨r,e,aG (hx _ _ h1) _,h2⟩
 ·rw[aq q,cw]
  rcases h.g v with h1 |⟨r',e1,h1,h2⟩
  ·exact .inl h1
  ·exact .inr ⟨r',e1,aJ (hx _ _ h1) λz=>q (h.i _ _ r (e) (z▸e1)),h2⟩
theorem Bk.new{rd:Nat}(h:Bk B s rd b p f H)(hx:Hp B H)(e:f (av b p)=none)(hs:H[s]? =aa (.inst fs))(hd:H[rd]? =aa (.dict n f))(m:MO):Bk B s rd b (p+1) (dput f (av b p) (.ref H.length)) (((H++[MO.list []]).set rd m).set H.length (.list [.int p])):=by
 refine⟨λv=>?_,λv v' r h1 h2=>?_⟩
 ·rw[js_c]
  delta dput
  by_cases q:v=av b p
  ·refine rwL q (rwL (aw rfl) (rwL (aw rfl) (.inr ⟨_,rfl,?_,hx.fresh,(cI hs),(cI hd)⟩)))
   rcases h.g (av b p) with ⟨_,e1⟩ |⟨r',e1,_⟩
   ·exact rwL e1 (aG (aJ (bC _ _) (cI hd).symm) _)
   ·cases (e▸e1)
  ·rw[aq q,aq (λz=>q z.symm),cw]
   rcases h.g v with h1 |⟨r',e1,h1,h2⟩
   ·exact .inl h1
   ·exact .inr ⟨r',e1,aJ (aJ (Hx.app _ _ _ _ h1) h2.2.2.symm) (cI h1),h2⟩
 ·unfold dput at h1 h2
  have key:∀ v,f v≠aa (.ref H.length):=λv z=>by
   rcases h.g v with ⟨e1,_⟩ |⟨r',e1,h1,_⟩
   ·exact cyM (rwR z e1)
   ·rw[z]at e1;cases e1;exact cI h1 rfl
  by_cases q:v=av b p
  ·by_cases q':v'=av b p
   ·exact q.trans q'.symm
   ·rw[aw q]at h1;rw[aq q']at h2;cases h1;exact ba h2 (key _)
  ·by_cases q':v'=av b p
   ·rw[aq q]at h1;rw[aw q']at h2;cases h2;exact ba h1 (key _)
   ·rw[aq q]at h1;rw[aq q']at h2;exact h.i _ _ _ h1 h2
theorem gN{r:Nat}(h:H[r]? =aa (.list vs)):H[r]?.bind MO.own=aa vs:=by rw[h];rfl
theorem aT(h:H[r]? =aa (.list vs)):lst H (.ref r)=aa vs:=by
 show H[r]?.bind _=_
 rw[h];rfl
theorem aBo(hf:lo x=aa (.ref r))(hg:lo y=aa v)(h:H[r]? =aa (.list vs))(hl:vs.length<1000000)(k:K .next lo (H.set r (.list (vs++[v])))):aZ (cV (eN x) (eN y)) lo H K:=Lf.mk hf (Lf.mk rfl ⟨⟨_,h⟩,Lf.mk hg (Lf.mk (gN h) ⟨hl,k⟩)⟩)
theorem aC8(b:ac Int)(v:Int):∀ p,(js b v p).length<=p
 |0=>ce _
 |p+1=>by
  rw[js_c,am]
  refine Nat.add_le_add (aC8 b v p) ?_
  split
  ·exact ce 1
  ·exact gw 1
def chR(w:V)(lo:Lo)(K:SK)(H:MH):Prop:=aB (aZ (cV (eN "indices") (eN "i"))) (sK .next) (upd lo "indices" w) H K
theorem chR_i(hi:upd lo "indices" (.ref r) "i" =aa v)(h:H[r]? =aa (.list vs))(hl:vs.length<1000000)(k:K .next (upd lo "indices" (.ref r)) (H.set r (.list (vs++[v])))):chR (.ref r) lo K H:=aBo (x:="indices") ⋯ hi h hl k
theorem ch_nf{rd p:Nat}{o2 o3:ae V}:(chT (.tup [.int p,.int v]) (look (fB (aa (.ref s)) (aa (.ref rb)) (aa (.ref rd)) o1 o2 o3)) H λlo1 H1=>chB lo1 H1 K)= (2=2/\(∃ n g,H[rd]? =aa (.dict n g))/\Lf ((H++[MO.list []])[rd]?.bind MO.dct) λq=>q.1<1000000/\match q.2 v with
   |some v'=>chR v' (upd (upd (look (fB (aa (.ref s)) (aa (.ref rb)) (aa (.ref rd)) o1 o2 o3)) "i" (.int p)) "elt" (.int v)) K (H++[MO.list []])
   |none=>chR (.ref H.length) (upd (upd (look (fB (aa (.ref s)) (aa (.ref rb)) (aa (.ref rd)) o1 o2 o3)) "i" (.int p)) "elt" (.int v)) K ((H++[MO.list []]).set rd (.dict (q.1+1) (dput q.2 v (.ref H.length))))):=by kernel_rfl
theorem upd3{rd:Nat}{o2 o3:ae V}(u v w:V):upd (upd (upd (look (fB (aa (.ref s)) (aa (.ref rb)) (aa (.ref rd)) o1 o2 o3)) "i" u) "elt" v) "indices" w=look (fB (aa (.ref s)) (aa (.ref rb)) (aa (.ref rd)) (aa u) (aa v) (aa w)):=by
 rw[aD,aD,aD];kernel_rfl
theorem aHg{rd:Nat}(hp:p<1000000)(hs:B s=none)(hr:B rd=none)(sr:s≠rd)(I:CBI B s rb rd fs b p lo H)(G:GoK (CBI B s rb rd fs b (p+1)) Q K):chT (.tup [.int p,.int (av b p)]) lo H λlo1 H1=>chB lo1 H1 K:=by
 cases I with
 | @mk n f o1 o2 o3 el hx ho hd hn bk=>
 subst el
 have hx':Hx H (H++[MO.list []]):=.app _ _
 refine kch ch_nf ⟨rfl,⟨_,_,hd⟩,Lf.mk (wF (hx' _ _ hd)) ⟨du hn hp,?_⟩⟩
 dsimp only
 rcases bk.g (av b p) with ⟨e,e2⟩ |⟨r,e,h1,h2,h3,h4⟩
 ·refine rwL e (chR_i ⋯ (aJ (bC _ _) (cI hd).symm) (by decide) (G.nx (.mk (upd3 _ _ _) (((hx.hx hx').set hr).set hx.fresh) ?_ ?_ (kh hn) (bk.new hx e ho hd _))))
  ·exact aJ (aJ (hx' _ _ ho) sr.symm) (cI ho)
  ·exact aJ (aG (hx' _ _ hd) _) (cI hd)
 ·refine rwL e (chR_i (v:=.int p) ⋯ (hx' _ _ h1) (by rw[ay];exact du (aC8 b (av b p) p) hp) (rwL (show (js b (av b p) p).map V.int++[V.int p]=(js b (av b p) p++[(p:Int)]).map V.int from by rw[cz];rfl) (G.nx (.mk (upd3 _ _ _) ((hx.hx hx').set h2) ?_ ?_ (je hn) (bk.old hx' e ho)))))
  ·exact aJ (hx' _ _ ho) h3
  ·exact aJ (hx' _ _ hd) h4
theorem fB_0{rd:Nat}:upd (upd (upd lo0 "self" (.ref s)) "b" (.ref rb)) "b2j" (.ref rd)=look (fB (aa (.ref s)) (aa (.ref rb)) (aa (.ref rd)) none none none):=by
 rw[<-fK (fB none none none none none none) ⋯,aD,aD,aD]
 kernel_rfl
def fs3(fs:Str->ae V)(rd rj rp:Nat):Str->ae V:=fput (fput (fput fs "b2j" (.ref rd)) "bjunk" (.ref rj)) "bpopular" (.ref rp)
theorem Bk.idx{rd:Nat}(h:Bk B s rd b b.length f H)(k:∀ (r:Nat) (m:MO),H[r]? =aa m->r≠s->H'[r]? =aa m):B2J H' b f:=λv=>by
 have e:Idx b v 0 (js b v b.length):=by
  have:=aC9 (v:=v) (ce b.length) (.nil λc h1 h2=>ba h2 (mo.mpr h1))
  rwa [cw]at this
 rcases h.g v with ⟨h1,h2⟩ |⟨r,h1,h2,h3,h4,h5⟩
 ·exact .inl ⟨h1,h2▸e⟩
 ·exact .inr ⟨r,_,h1,aT (k _ _ h2 h4),e⟩
theorem Bk.nw{rd:Nat}(h:Bk B s rd b p f H)(v:Int)(r:Nat)(e:f v=aa (.ref r)):B r=none:=by
 rcases h.g v with ⟨h1,h2⟩ |⟨r',h1,h2,h3,h4,h5⟩
 ·exact aE (h1.symm.trans e)
 ·cases h1.symm.trans e;exact h3
theorem aEx{rd:Nat}{o2 o3:ae V}(hs:B s=none)(hx:Hp B H)(h:H[s]? =aa (.inst fs))(hd:H[rd]? =aa (.dict n f))(sr:s≠rd)(hb:LP B rb b)(bl:b.length<1000000)(bt:t=ag->b.length<200)(ej:fs "isjunk" =aa .none)(ea:fs "autojunk" =aa (.bool t))(bk:Bk B s rd b b.length f H)(k:∀ {H' rj rp},Hp B H'->H'[s]? =aa (MO.inst (fput (fput fs "bjunk" (.ref rj)) "bpopular" (.ref rp)))->H'[rd]? =aa (.dict n f)->H'[rj]? =aa .eset->B2J H' b f->(∀ v r,f v=aa (.ref r)->B r=none)->B rj=none->Q .none H'):yY X (look (fB (aa (.ref s)) (aa (.ref rb)) (aa (.ref rd)) o1 o2 o3)) H (kY Q):=by
 refine kch (B:=(St s "bjunk" (.ref H.length) (H++[MO.eset]) λH3=>At s "isjunk" H3 λv=>Lf (tr v H3) λb=>bif b then fe else St s "bpopular" (.ref H3.length) (H3++[MO.eset]) λH4=>
  Lp ((lst H4 (.ref rb)).bind λxs=>if xs.length<1000000 then aa (.int xs.length,H4) else none) λn H5=>At s "autojunk" H5 λv=>Lf (tr v H5) λb=>bif b then(Lp (oGe n (.int 200) H5) λv H6=>Lf (tr v H6) λb=>bif b then fe else Q .none H6) else Q .none H5)) ⋯ ?_
 have h1:=Hx.app H [MO.eset] _ _ h
 have s1:=aG h1 (MO.inst (fput fs "bjunk" (.ref H.length)))
 refine St.mk h1 (At.mk s1 ej (Lf.mk rfl (aR (St.mk (Hx.app _ [MO.eset] _ _ s1) ?_))))
 have s2:=aG (Hx.app _ [MO.eset] _ _ s1) (MO.inst (fput (fput fs "bjunk" (.ref H.length)) "bpopular" (.ref ((H++[MO.eset]).set s (MO.inst (fput fs "bjunk" (.ref H.length)))).length)))
 have x2:=((((hx.hx (.app H [MO.eset])).set (m:=.inst (fput fs "bjunk" (.ref H.length))) hs).hx (.app _ [MO.eset])).set (m:=.inst (fput (fput fs "bjunk" (.ref H.length)) "bpopular" (.ref ((H++[MO.eset]).set s (MO.inst (fput fs "bjunk" (.ref H.length)))).length))) hs)
 have key:∀ (r:Nat) (m:MO),(H++[MO.eset])[r]? =aa m->r≠s->((((H++[MO.eset]).set s (MO.inst (fput fs "bjunk" (.ref H.length))))++[MO.eset]).set s (MO.inst (fput (fput fs "bjunk" (.ref H.length)) "bpopular" (.ref ((H++[MO.eset]).set s (MO.inst (fput fs "bjunk" (.ref H.length)))).length))))[r]? =aa m:=λr m e n=>
  aJ (Hx.app _ _ _ _ (aJ e n.symm)) n.symm
 have fin:=k x2 s2 (key _ _ (Hx.app _ _ _ _ hd) sr.symm) (key _ _ (bC _ _) (cI h)) (bk.idx λr m e n=>key _ _ (Hx.app _ _ _ _ e) n) bk.nw hx.fresh
 refine Lp.mk (by rw[(x2.li hb)];show(if (b.map V.int).length<1000000 then _ else _)=_;rw[ay,aw bl]) (At.mk s2 ea (Lf.mk rfl ?_))
 cases t with
 |false=>exact fin
 |true=>
  refine aW (Lp.mk (v:=.bool (decide ((b.length:Int)>=200))) ⋯ (Lf.mk ?_ (aR fin)))
  rw[bc (A182 (bt rfl))];rfl
theorem oV(h:H[s]? =aa (.inst fs))(hx:Hp B H)(hs:B s=none)(hb:LP B rb b)(bl:b.length<1000000)(bt:t=ag->b.length<200)(eb:fs "b" =aa (.ref rb))(ej:fs "isjunk" =aa .none)(ea:fs "autojunk" =aa (.bool t))(k:∀ {H' rd rj rp n f},Hp B H'->H'[s]? =aa (MO.inst (fs3 fs rd rj rp))->H'[rd]? =aa (.dict n f)->H'[rj]? =aa .eset->B2J H' b f->(∀ v r,f v=aa (.ref r)->B r=none)->B rd=none->B rj=none->Q .none H'):cA X [.ref s] H Q:=by
 refine kch (B:=(1=1/\At s "b" H λv=>St s "b2j" (.ref H.length) (H++[.dict 0 λ_=>none]) λH2=>Lf v.rf λi=>(∃ vs,lst H2 (.ref i)=aa vs)/\
  ∃ n,cZ (nG C) chT chB n (i,0) (upd (upd (upd lo0 "self" (.ref s)) "b" v) "b2j" (.ref H.length)) H2 (bN (yY X) (kY Q)))) ⋯ ?_
 have e1:=Hx.app H [.dict 0 λ_=>none]
 refine⟨rfl,At.mk h eb (St.mk (e1 _ _ h) (Lf.mk rfl ?_))⟩
 have x1:=(hx.hx e1).set (m:=.inst (fput fs "b2j" (.ref H.length))) hs
 have sr:=(cI h).symm
 have rdn:=hx.fresh
 refine⟨⟨_,x1.li hb⟩,(b.map V.int).length+1,rwL fB_0 (uL (CBI B s rb H.length (fput fs "b2j" (.ref H.length)) b) (λI=>?_) (λI=>?_) (λ{p v lo H K} e I G=>?_) _ 0 (Nat.zero_add _) (.mk rfl x1 (aG (e1 _ _ h) (MO.inst (fput fs "b2j" (.ref H.length)))) (aJ (bC _ _) sr) (ce _) ⟨λv=>.inl ⟨rfl,rfl⟩,λv v' r h1 h2=>nomatch h1⟩))⟩
 ·cases I with
  |mk el hx=>exact hx.li hb
 ·cases I with
  |mk el hx ho hd hn bk=>
   subst el
   rw[ay]at bk
   exact aEx X hs hx ho hd sr hb bl bt ej ea bk λe1 e2 e3 e4 e5 e6 e7=>k e1 e2 e3 e4 e5 e6 rdn e7
 ·refine xEA (df.mp (rwR gp e)) λx h1 h2=>?_
  refine rwR h2 ?_
  have:av b p=x:=by
   show b.getD p 0=x
   rw[dq,h1];rfl
  exact rwR this (aHg (ko (List.getElem?_eq_some_iff.mp h1).1 bl) hs hx.fresh sr I G)
structure Bx(a b:ac Int)(t:T3):Prop where
 p:0<t.k
 n:In a b ⟨0,a.length,0,b.length⟩ t.i t.j t.k
def T3.w(t:T3):Wd:=⟨t.i,t.i+t.k,t.j,t.j+t.k⟩
def Sep(x y:Wd):Prop:=(x.ah<=y.al/\x.bh<=y.bl)\/(y.ah<=x.al/\y.bh<=x.bl)
structure Sb(x y:Wd):Prop where
 a0:y.al<=x.al
 a1:x.ah<=y.ah
 b0:y.bl<=x.bl
 b1:x.bh<=y.bh
theorem Sep.symm(h:Sep x y):Sep y x:=Or.symm h
theorem Sep.sub(h:Sep y z)(s:Sb x y):Sep x z:=h.imp (λh=>⟨bw s.a1 h.1,bw s.b1 h.2⟩) λh=>⟨bw h.1 s.a0,bw h.2 s.b0⟩
theorem zW(i:Int)(h:0<=k):i<=i+k:=Int.le_add_of_nonneg_right h
theorem sb1(B:In a b w i j k):Sb ⟨w.al,i,w.bl,j⟩ w:=⟨Int.le_refl _,bw (zW i B.k0) B.i1,Int.le_refl _,bw (zW j B.k0) B.j1⟩
theorem sb2(B:In a b w i j k):Sb ⟨i+k,w.ah,j+k,w.bh⟩ w:=⟨bw B.i0 (zW i B.k0),Int.le_refl _,bw B.j0 (zW j B.k0),Int.le_refl _⟩
theorem sb3(B:In a b w i j k):Sb (T3.w ⟨i,j,k⟩) w:=⟨B.i0,B.i1,B.j0,B.j1⟩
theorem mem1(h:v∈gU w i j q):v=⟨w.al,i,w.bl,j⟩\/v∈q:=by
 unfold gU at h
 split at h
 ·exact ez.mp h
 ·exact .inr h
theorem mem2(h:v∈iU w i j k q):v=⟨i+k,w.ah,j+k,w.bh⟩\/v∈q:=by
 unfold iU at h
 split at h
 ·exact ez.mp h
 ·exact .inr h
theorem pw1(h:q.Pairwise Sep)(c:∀ v∈q,Sep ⟨w.al,i,w.bl,j⟩ v):(gU w i j q).Pairwise Sep:=by
 delta gU
 split
 ·exact fp.mpr ⟨c,h⟩
 ·exact h
theorem pw2(h:q.Pairwise Sep)(c:∀ v∈q,Sep ⟨i+k,w.ah,j+k,w.bh⟩ v):(iU w i j k q).Pairwise Sep:=by
 delta iU
 split
 ·exact fp.mpr ⟨c,h⟩
 ·exact h
def SepT(x y:T3):Prop:=Sep x.w y.w
theorem Run.ok(h:Run a b q m r)(hw:∀ w∈q,WOk a b w)(hm:∀ t∈m,Bx a b t)(pq:q.Pairwise Sep)(pm:m.Pairwise SepT)(cr:∀ w∈q,∀ t∈m,Sep w t.w):(∀ t∈r,Bx a b t)/\r.Pairwise SepT:=by
 induction h with
 |nil=>exact⟨hm,pm⟩
 |zero B h ih=>
  exact ih (λv hv=>hw v (.tail _ hv)) hm (fp.mp pq).2 pm λv hv=>cr v (.tail _ hv)
 | @pos w q m r i j k B p h ih=>
  have W:=hw w (.head _)
  have n:=B.n
  refine xA (fp.mp pq) λpw pq=>?_
  have cl:∀ v∈gU w i j q,v=⟨w.al,i,w.bl,j⟩\/v∈q:=λv hv=>mem1 hv
  have new:∀ v∈iU w i j k (gU w i j q),Sep v (T3.w ⟨i,j,k⟩):=λv hv=>by
   refine Or.elim (mem2 hv) (λe=>(e▸ .inr ⟨Int.le_refl _,Int.le_refl _⟩)) λe=>?_
   ·refine Or.elim (cl v e) (λe=>(e▸ .inl ⟨Int.le_refl _,Int.le_refl _⟩)) λe=>?_
    ·exact((pw v e).sub (sb3 n)).symm
  refine ih (w4 W B λv hv=>hw v (.tail _ hv)) (λt ht=>?_) (pw2 (pw1 pq λv hv=>(pw v hv).sub (sb1 n)) λv hv=>?_) (List.pairwise_append.mpr ⟨pm,List.pairwise_singleton _ _,λx hx y hy=>?_⟩) λv hv t ht=>?_
  ·refine Or.elim (ij.mp ht) (λe=>(hm t e)) λe=>?_
   ·cases cy.mp e
    exact⟨p,bw W.a0 n.i0,bw n.i1 W.a2,bw W.b0 n.j0,bw n.j1 W.b2,n.k0,n.m⟩
  ·refine Or.elim (cl v hv) (λe=>(e▸ .inr ⟨zW i n.k0,zW j n.k0⟩)) λe=>?_
   ·exact(pw v e).sub (sb2 n)
  ·cases cy.mp hy
   exact((cr w (.head _) x hx).sub (sb3 n)).symm
  ·refine Or.elim (ij.mp ht) (λe=>?_) λe=>?_
   ·refine Or.elim (mem2 hv) (λz=>(z▸(cr w (.head _) t e).sub (sb2 n))) λz=>?_
    ·refine Or.elim (cl v z) (λz=>(z▸(cr w (.head _) t e).sub (sb1 n))) λz=>?_
     ·exact cr v (.tail _ z) t e
   ·cases cy.mp e
    exact new v hv
theorem Run.ok0(h:Run a b [⟨0,a.length,0,b.length⟩] [] r):(∀ t∈r,Bx a b t)/\r.Pairwise SepT:=h.ok (λw hw=>by
  cases cy.mp hw
  exact⟨Int.le_refl _,cj _,Int.le_refl _,Int.le_refl _,cj _,Int.le_refl _⟩) (λ_ h=>ba h fg) (List.pairwise_singleton _ _) .nil λ_ _ _ h=>ba h fg
class inductive CH(a b:ac Int):Int->Int->ac T3->Prop
 |nil {i j:Int}:CH a b i j []
 |cons {i j:Int}{t:T3}{l:ac T3} (hi:i<=t.i) (hj:j<=t.j) (B:Bx a b t) (h:CH a b (t.i+t.k) (t.j+t.k) l):CH a b i j (t::l)
theorem CH.of:∀ {l:ac T3}{i j:Int},(∀ t∈l,Bx a b t)->l.Pairwise SepT->l.Pairwise (λx y=>x.i<y.i)->(∀ t∈l,i<=t.i/\j<=t.j)->CH a b i j l:=λ{n}=>by
 induction n with
 |nil=>
  intro _ _ _ _ _ _
  exact .nil
 |cons t l ih=>
  intro i j hb hs hl h0
  refine xA (fp.mp hs) λs1 s2=>xA (fp.mp hl) λl1 l2=>.cons (h0 t (.head _)).1 (h0 t (.head _)).2 (hb t (.head _)) (ih (λx hx=>hb x (.tail _ hx)) s2 l2 λx hx=>(Or.elim (s1 x hx) (λs=>s) λs=>?_))
  ·exact ba (iy (l1 x hx) (bw (oe (iz x.i ((hb x (.tail _ hx)).p))) s.1)) (ju _)
theorem CH.len(h:CH a b i j l)(hi:i<=a.length):i+l.length<=a.length:=by
 induction h with
 |nil=>simpa using hi
 | @cons i j t l h1 h2 B h ih=>
  exact rwL cq (A201 h1 (ih B.n.i1) B.p)
theorem rB:∀ (l:ac T3) (c:T3),(nad c l).length<=l.length+1
 | [],c=>by
  rw[xJ];split
  ·exact gw 1
  ·exact ce 1
 |x::l,c=>by
  rw[xK];split
  ·exact je (rB l _)
  ·rw[am,cq,Nat.add_comm]
   refine Nat.add_le_add (rB l x) ?_
   split
   ·exact gw 1
   ·exact ce 1
theorem Run.sorted(h:Run a b [⟨0,a.length,0,b.length⟩] [] r):r.Pairwise (λx y=>x.i≠y.i)/\CH a b 0 0 (isort T3.i r):=by
 refine xA h.ok0 λh1 h2=>?_
 have ne:r.Pairwise (λx y=>x.i≠y.i):=h2.imp_of_mem λ{x y} hx hy s e=>by
  have py:=(h1 y hy).p
  refine Or.elim s (λs=>(ba (iy (iz x.i ((h1 x hx).p)) s.1) (e▸ju _))) λs=>?_
  ·exact ba (iy (iz y.i py) s.1) (e▸ju _)
 have h3:=λt ht=>h1 t ((cQ T3.i r).mem_iff.mp ht)
 exact⟨ne,.of h3 (((cQ T3.i r).pairwise_iff λ{x y} (s:SepT x y)=>s.symm).mpr h2) (nH ne) λt ht=>⟨(h3 t ht).n.i0,(h3 t ht).n.j0⟩⟩
theorem Run.len(h:Run a b [⟨0,a.length,0,b.length⟩] [] r):r.length<=a.length:=by
 exact A202 (rwR ((cQ T3.i r).length_eq) (h.sorted.2.len (cj _)))
set_option genCtorIdx true in
inductive Tg where |rep |del |ins |eq
structure Op where
 tag:Tg
 i1:Int
 i2:Int
 j1:Int
 j2:Int
def gap(i j i' j':Int):ac Op:=if i<i' then if j<j' then [⟨.rep,i,i',j,j'⟩] else [⟨.del,i,i',j,j'⟩] else if j<j' then [⟨.ins,i,i',j,j'⟩] else []
def ops(i j:Int):ac T3->ac Op
 | []=>[]
 |t::l=>gap i j t.i t.j++((if t.k=0 then [] else [Op.mk .eq t.i (t.i+t.k) t.j (t.j+t.k)])++ops (t.i+t.k) (t.j+t.k) l)
theorem ops_n(i j:Int):ops i j []= []:=rfl
theorem ops_c(i j:Int)(t:T3)(l:ac T3):ops i j (t::l)=gap i j t.i t.j++((if t.k=0 then [] else [Op.mk .eq t.i (t.i+t.k) t.j (t.j+t.k)])++ops (t.i+t.k) (t.j+t.k) l):=rfl
class inductive NA(a b:ac Int):dj->Int->Int->ac T3->Prop
 |nil {f:dj}{i j:Int}:NA a b f i j []
 |cons {f:dj}{i j:Int}{t:T3}{l:ac T3} (hi:i<=t.i) (hj:j<=t.j) (st:f=ag->i<t.i\/j<t.j) (B:Bx a b t) (h:NA a b ag (t.i+t.k) (t.j+t.k) l):NA a b f i j (t::l)
theorem Bx.nz(B:Bx a b c):c.k≠0:=λz=>ba B.p (z▸ju _)
theorem Bx.join(B:Bx a b c)(X:Bx a b x)(e1:c.i+c.k=x.i)(e2:c.j+c.k=x.j):Bx a b ⟨c.i,c.j,c.k+x.k⟩:=by
 have n:=X.n
 refine⟨Int.add_pos_of_pos_of_nonneg B.p n.k0,B.n.i0,?_,B.n.j0,?_,Int.add_nonneg B.n.k0 n.k0,λt h1 h2=>?_⟩
 ·rw[<-nj,e1];exact n.i1
 ·rw[<-nj,e2];exact n.j1
 ·by_cases q:t<c.k
  ·exact B.n.m t h1 q
  ·have:=n.m (t-c.k) (jr (mo.mp q)) (Int.sub_left_lt_of_lt_add h2)
   rw[<-e1,<-e2,nj,nj,show c.k+(t-c.k)=t from A203]at this
   exact this
theorem kA:∀ {l:ac T3}{c:T3}{f:dj}{i j:Int},CH a b (c.i+c.k) (c.j+c.k) l->Bx a b c->i<=c.i->j<=c.j->(f=ag->i<c.i\/j<c.j)->NA a b f i j (nad c l):=λ{n}=>by
 induction n with
 |nil=>
  intro c f i j _ B hi hj st
  rw[xJ,aq B.nz]
  exact .cons hi hj st B .nil
 |cons x l ih=>
  intro c f i j h B hi hj st
  cases h with
  |cons h1 h2 X h=>
  rw[xK]
  by_cases q:c.i+c.k=x.i/\c.j+c.k=x.j
  ·rw[aw q]
   refine ih ?_ (B.join X q.1 q.2) hi hj st
   rw[<-nj,<-nj,q.1,q.2];exact h
  ·rw[aq q,aq B.nz]
   refine .cons hi hj st B (ih h X h1 h2 λ_=>?_)
   by_cases q1:c.i+c.k=x.i
   ·exact .inr (Int.lt_iff_le_and_ne.mpr ⟨h2,λz=>q ⟨q1,z⟩⟩)
   ·exact .inl (Int.lt_iff_le_and_ne.mpr ⟨h1,q1⟩)
theorem nad_0(h:CH a b 0 0 l):NA a b af 0 0 (nad ⟨0,0,0⟩ l):=by
 cases h with
 |nil=>exact .nil
 | @cons i j t l h1 h2 X h=>
  rw[xK]
  by_cases q:(0:Int)+0=t.i/\(0:Int)+0=t.j
  ·rw[aw q]
   have e:(⟨0,0,0+t.k⟩:T3)=t:=by
    cases t
    cases q.1;cases q.2
    rw[th];rfl
   exact rwL e (kA h X h1 h2 nofun)
  ·rw[aq q]
   exact kA h X h1 h2 nofun
class inductive Cod(a b:ac Int):ae dj->Int->Int->ac Op->Prop
 |nil {f:ae dj}:Cod a b f a.length b.length []
 |eq {f:ae dj}{i j k:Int}{l:ac Op} (hf:f≠aa ag) (p:0<k) (m:Mt a b i j k) (h:Cod a b (aa ag) (i+k) (j+k) l):Cod a b f i j (⟨.eq,i,i+k,j,j+k⟩::l)
 |ch {f:ae dj}{i j i' j':Int}{g:Tg}{l:ac Op} (hf:f≠aa af) (hg:g≠ .eq) (hi:i<=i') (hj:j<=j') (lt:i<i'\/j<j') (h:Cod a b (aa af) i' j' l):Cod a b f i j (⟨g,i,i',j,j'⟩::l)
theorem Cod.gap(hf:f≠aa af)(hi:i<=i')(hj:j<=j')(h1:i=i'->j=j'->Cod a b f i j l)(h2:Cod a b (aa af) i' j' l):Cod a b f i j (Mine.Internal.gap i j i' j'++l):=by
 unfold Mine.Internal.gap
 by_cases q1:i<i'
 ·rw[aw q1]
  split
  ·exact .ch hf nofun hi hj (.inl q1) h2
  ·exact .ch hf nofun hi hj (.inl q1) h2
 ·rw[aq q1]
  by_cases q2:j<j'
  ·exact rwL (aw q2) (.ch hf nofun hi hj (.inr q2) h2)
  ·exact rwL (aq q2) (h1 (Int.le_antisymm hi (mo.mp q1)) (Int.le_antisymm hj (mo.mp q2)))
def fl(f:dj):ae dj:=if f=ag then aa ag else none
theorem NA.cod(h:NA a b f i j l)(hi:i<=a.length)(hj:j<=b.length):Cod a b (fl f) i j (ops i j (l++[⟨a.length,b.length,0⟩])):=by
 have nf:∀ f,fl f≠aa af:=λf=>by cases f<;>nofun
 induction h with
 | @nil f i j=>
  exact Cod.gap (nf f) hi hj (λe1 e2=>(rwL e1 (rwL e2 .nil))) .nil
 | @cons f i j t l h1 h2 st B h ih=>
  rw[ss,ops_c,aq B.nz]
  refine Cod.gap (nf f) h1 h2 (λe1 e2=>?_) (.eq nofun B.p B.n.m (ih B.n.i1 B.n.j1))
  subst e1 e2
  refine .eq (λz=>?_) B.p B.n.m (ih B.n.i1 B.n.j1)
  cases f with
  |false=>cases z
  |true=>rcases st rfl with q |q<;>exact ju _ q
theorem zI(h:H[s]? =aa (.inst fs))(ha:fs "a" =aa (.ref r0))(hb:fs "b" =aa (.ref r1))(la:lst H (.ref ra)=aa va)(lb:∀ m,lst (H.set s m) (.ref rb)=aa vb)(na:ra≠r0)(nb:rb≠r1)(k:cA X [.ref s] (H.set s (.inst (fs2 (fs1 fs ra) rb))) λ_ H'=>Q .none H'):bL X [.ref s,.ref ra,.ref rb] H Q:=by
 refine kch (B:=(3=3/\(∃ ff,H[s]? =aa (.inst ff))/\dD X [.ref s,.ref ra] H λ_ H2=>(∃ ff,H2[s]? =aa (.inst ff))/\dB X [.ref s,.ref rb] H2 λ_ H3=>Q .none H3)) ⋯ ⟨rfl,⟨_,h⟩,pH X h ha la na ⟨⟨_,aG h _⟩,pF X (aG h _) hb (lb _) nb ?_⟩⟩
 rw[ms];exact k
theorem pU(h:H[s]? =aa (.inst fs))(ha:fs "a" =aa (.ref ra))(hb:fs "b" =aa (.ref rb))(k:Q .none H):bL X [.ref s,.ref ra,.ref rb] H Q:=kch (B:=(3=3/\(∃ ff,H[s]? =aa (.inst ff))/\dD X [.ref s,.ref ra] H λ_ H2=>(∃ ff,H2[s]? =aa (.inst ff))/\dB X [.ref s,.ref rb] H2 λ_ H3=>Q .none H3)) ⋯ ⟨rfl,⟨_,h⟩,pG X h ha ⟨⟨_,h⟩,pE X h hb k⟩⟩
theorem aF2(h:H[s]? =aa (.inst fs))(ha:fs "a" =aa .none)(hb:fs "b" =aa .none)(k:cA X [.ref s] (H.set s (.inst (fs2 (fs1 fs ra) rb))) λ_ H'=>Q .none H'):bL X [.ref s,.ref ra,.ref rb] H Q:=by
 refine kch (B:=(3=3/\(∃ ff,H[s]? =aa (.inst ff))/\dD X [.ref s,.ref ra] H λ_ H2=>(∃ ff,H2[s]? =aa (.inst ff))/\dB X [.ref s,.ref rb] H2 λ_ H3=>Q .none H3)) ⋯ ⟨rfl,⟨_,h⟩,tF X h ha ⟨⟨_,aG h _⟩,tD X (aG h _) hb ?_⟩⟩
 rw[ms];exact k
def fs0F:Str->ae V:=fput (fput (fput (fput (λ_=>none) "isjunk" .none) "a" .none) "b" .none) "autojunk" (.bool af)
def fsF(ra rb rd rj rp:Nat):Str->ae V:=fs3 (fs2 (fs1 fs0F ra) rb) rd rj rp
theorem aDe:sR X [.ref s,.none,.ref ra,.ref rb,.bool af] H Q=(5=5/\St s "isjunk" .none H λH1=>St s "a" .none H1 λH2=>St s "b" .none H2 λH3=>St s "autojunk" (.bool af) H3 λH4=>(∃ ff,H4[s]? =aa (.inst ff))/\bL X [.ref s,.ref ra,.ref rb] H4 λ_ H'=>Q .none H'):=by kernel_rfl
theorem y7(ha:LI H ra a)(hb:LI H rb b)(al:a.length<1000000)(bl:b.length<1000000)(k:∀ {H' rd rj rp n f},Hx H H'->SM H' H.length ra rb rd rj n (fsF ra rb rd rj rp) f a b->(∀ v r,f v=aa (.ref r)->H[r]? =none)->Q (.ref H.length) H'):X.c_SM4 [.none,.ref ra,.ref rb,.bool af] H Q:=by
 have h0:=bC H (.inst λ_=>none)
 have h1:=aG h0 (.inst (fput (λ_=>none) "isjunk" .none))
 have h2:=aG h1 (.inst (fput (fput (λ_=>none) "isjunk" .none) "a" .none))
 have h3:=aG h2 (.inst (fput (fput (fput (λ_=>none) "isjunk" .none) "a" .none) "b" .none))
 have h4:=aG h3 (.inst fs0F)
 refine kch (aDe X) ⟨rfl,St.mk h0 (St.mk h1 (St.mk h2 (St.mk h3 ⟨⟨_,h4⟩,aF2 X h4 ⋯ ⋯ (oV X (t:=af) (aG h4 (.inst (fs2 (fs1 fs0F ra) rb))) ((((((Hx.app H [.inst λ_=>none]).set (aM H)).set (aM H)).set (aM H)).set (aM H)).set (aM H)) (aM H) hb bl nofun ⋯ ⋯ ⋯ λ{H' rd rj rp n f} e1 e2 e3 e4 e5 e6 _ _=>⟨rfl,k e1 ⟨e2,by kernel_rfl,by kernel_rfl,by kernel_rfl,by kernel_rfl,e1.li ha,e1.li hb,e3,e4,e5,al,bl⟩ e6⟩)⟩)))⟩
theorem aHl(h:H[s]? =aa (.inst fs))(hx:Hp B H)(hs:B s=none)(hb:fs "a" =aa (.ref r0))(hb2:fs "b" =aa (.ref r1))(ej:fs "isjunk" =aa .none)(ea:fs "autojunk" =aa (.bool af))(la:LP B ra a)(lb:LP B rb b)(na:ra≠r0)(nb:rb≠r1)(al:a.length<1000000)(bl:b.length<1000000)(k:∀ {H' rd rj rp n f},Hp B H'->SM H' s ra rb rd rj n (fs3 (fs2 (fs1 fs ra) rb) rd rj rp) f a b->(∀ v r,f v=aa (.ref r)->B r=none)->B rd=none->B rj=none->Q .none H'):bL X [.ref s,.ref ra,.ref rb] H Q:=by
 refine zI X h hb hb2 (hx.li la) (λm=>(hx.set hs).li lb) na nb (oV X (t:=af) (aG h _) (hx.set hs) hs lb bl nofun ⋯ ej ea λ{H' rd rj rp n f} e1 e2 e3 e4 e5 e6 e7 e8=>k e1 ⟨e2,by kernel_rfl,by kernel_rfl,by kernel_rfl,by kernel_rfl,e1.li la,e1.li lb,e3,e4,e5,al,bl⟩ e6 e7 e8)
def Wd.v(w:Wd):V:=.tup [.int w.al,.int w.ah,.int w.bl,.int w.bh]
def T3.v(t:T3):V:=.mat t.i t.j t.k
def T3.t(t:T3):V:=.tup [.int t.i,.int t.j,.int t.k]
structure GC where
 s:Nat
 la:Int
 lb:Int
 q:Nat
 m:Nat
def fG(s la lb q m al ah bl bh i j k x:ae V):Nv:=[("self",s),("la",la),("lb",lb),("queue",q),("matching_blocks",m),("alo",al),("ahi",ah),("blo",bl),("bhi",bh),("i",i),("j",j),("k",k),("x",x),("i1",none),("j1",none),("k1",none),("non_adjacent",none),("i2",none),("j2",none),("k2",none)]
def gL(c:GC)(al ah bl bh i j k x:ae V):Lo:=look (fG (aa (.ref c.s)) (aa (.int c.la)) (aa (.int c.lb)) (aa (.ref c.q)) (aa (.ref c.m)) al ah bl bh i j k x)
def gL'(c:GC)(w:Wd)(i j k x:ae V):Lo:=gL c (aa (.int w.al)) (aa (.int w.ah)) (aa (.int w.bl)) (aa (.int w.bh)) i j k x
theorem pop_i(hx:lo x=aa (.ref r))(h:H[r]? =aa (.list (vs++[v])))(hl:vs.length<999999)(k:Q v (H.set r (.list vs))):ePop (eN x) lo H Q:=by
 have e:(vs++[v]).length=vs.length+1:=by rw[am];rfl
 refine Lf.mk hx (Lf.mk rfl (Lf.mk (gN h) ⟨by rw[e];exact Nat.succ_lt_succ hl,Lf.mk (p:=v) ?_ ?_⟩))
 ·rw[e,Nat.add_sub_cancel,dg (ce _),qe];rfl
 ·rw[e,Nat.add_sub_cancel,List.eraseIdx_append_of_length_le (ce _),qe]
  show Q v (H.set r (.list (vs++[])))
  rw[cw];exact k
theorem iV(hx:lo x=aa (.ref r))(hg:∀ (H:MH) (Q:EK),Q v H->g lo H Q)(h:H[r]? =aa (.list vs))(hl:vs.length<1000000)(k:K .next lo (H.set r (.list (vs++[v])))):aZ (cV (eN x) g) lo H K:=Lf.mk hx (Lf.mk rfl ⟨⟨_,h⟩,hg _ _ (Lf.mk (gN h) ⟨hl,k⟩)⟩)
inductive QI(a b:ac Int)(c:GC)(G:MH)(n:Nat)(lo:Lo)(H:MH):Prop
 |mk {q:ac Wd}{m:ac T3}{al ah bl bh i j k x:ae V} (el:lo=gL c al ah bl bh i j k x) (hx:Hx G H) (hq:H[c.q]? =aa (.list (q.reverse.map Wd.v))) (hm:H[c.m]? =aa (.list (m.map T3.v)))
   (w:∀ v∈q,WOk a b v) (r:∀ r,Run a b q m r->Run a b [⟨0,c.la,0,c.lb⟩] [] r) (n1:mu q<=n) (n2:m.length+mu q<=1000):QI a b c G n lo H
theorem gB_pop{X:XX C}(h:H[c.q]? =aa (.list (vs++[w.v])))(hl:vs.length<999999)(q:gF X (gL' c w i j k x) (H.set c.q (.list vs)) K):gB X (gL c al ah bl bh i j k x) H K:=by
 refine aI (aBn (pop_i ⋯ h hl (kch (B:=(4=4/\gF X (upd (upd (upd (upd (gL c al ah bl bh i j k x) "alo" (.int w.al)) "ahi" (.int w.ah)) "blo" (.int w.bl)) "bhi" (.int w.bh)) (H.set c.q (.list vs)) K)) ⋯ ⟨rfl,?_⟩)))
 delta gL
 rw[aD,aD,aD,aD]
 exact q
theorem gF_nf{X:XX C}:gF X (gL' c w i j k x) H K=((∃ ff,H[c.s]? =aa (.inst ff))/\bQ X [.ref c.s,.int w.al,.int w.ah,.int w.bl,.int w.bh] H λv H2=> iF (cG 3 (asC (aN "i") (asC (aN "j") (asC (aN "k") asN)))) (aN "x") v (gL' c w i j k x) H2 λlo' H3=>gI X lo' H3 K):=by kernel_rfl
theorem gF_set{X:XX C}{t:T3}(q:gI X (gL' c w (aa (.int t.i)) (aa (.int t.j)) (aa (.int t.k)) (aa t.v)) H K):iF (cG 3 (asC (aN "i") (asC (aN "j") (asC (aN "k") asN)))) (aN "x") t.v (gL' c w i j k x) H λlo' H3=>gI X lo' H3 K:=by
 refine kch (B:=(3=3/\gI X (upd (upd (upd (upd (gL' c w i j k x) "i" (.int t.i)) "j" (.int t.j)) "k" (.int t.k)) "x" t.v) H K)) ⋯ ⟨rfl,?_⟩
 unfold gL' gL
 rw[aD,aD,aD,aD]
 exact q
def gT(c:GC)(w:Wd)(t:T3):Lo:=gL' c w (aa (.int t.i)) (aa (.int t.j)) (aa (.int t.k)) (aa t.v)
theorem gI_nf{X:XX C}:gI X (gT c w t) H K=(bif t.k != 0 then gA (gT c w t) H K else K .next (gT c w t) H):=by kernel_rfl
theorem gH_nf:gH (gT c w t) H K=(bif decide (w.al<t.i) then bif decide (w.bl<t.j) then gP1 (gT c w t) H (bN gJ K) else gJ (gT c w t) H K else gJ (gT c w t) H K):=by kernel_rfl
theorem gJ_nf:gJ (gT c w t) H K=(bif decide (t.i+t.k<w.ah) then bif decide (t.j+t.k<w.bh) then gP2 (gT c w t) H K else K .next (gT c w t) H else K .next (gT c w t) H):=by kernel_rfl
theorem gP1_i(h:H[c.q]? =aa (.list vs))(hl:vs.length<1000000)(k:K .next (gT c w t) (H.set c.q (.list (vs++[Wd.v ⟨w.al,t.i,w.bl,t.j⟩])))):gP1 (gT c w t) H K:=by
 delta gP1
 exact aI (iV ⋯ (λH Q q=>kch (B:=(4<100/\Q (Wd.v ⟨w.al,t.i,w.bl,t.j⟩) H)) ⋯ ⟨by decide,q⟩) h hl k)
theorem gP2_i(h:H[c.q]? =aa (.list vs))(hl:vs.length<1000000)(k:K .next (gT c w t) (H.set c.q (.list (vs++[Wd.v ⟨t.i+t.k,w.ah,t.j+t.k,w.bh⟩])))):gP2 (gT c w t) H K:=by
 delta gP2
 exact aI (iV ⋯ (λH Q q=>kch (B:=(4<100/\Q (Wd.v ⟨t.i+t.k,w.ah,t.j+t.k,w.bh⟩) H)) ⋯ ⟨by decide,q⟩) h hl k)
def Ex(H H':MH)(i:Nat):Prop:=∀ (j:Nat) (m:MO),i≠j->H[j]? =aa m->H'[j]? =aa m
theorem Ex.set:Ex H (H.set i m) i:=λj x n e=>aJ e n
theorem Ex.trans{H1:MH}(h:Ex H H1 i)(h':Ex H1 H2 i):Ex H H2 i:=λj m n e=>h' j m n (h j m n e)
theorem Ex.hx(h:Ex H H' i)(x:Hx G H)(hi:G[i]? =none):Hx G H':=λj m e=>h j m (λz=>by rw[z,e]at hi;exact cyM hi) (x j m e)
theorem m4(q:ac Wd)(w:Wd):(w::q).reverse.map Wd.v=q.reverse.map Wd.v++[w.v]:=by rw[List.reverse_cons,cz];rfl
theorem qlen{q:ac Wd}(h:q.length<n):(q.reverse.map Wd.v).length<n:=by rw[ay,List.length_reverse];exact h
theorem gJ_i(h:H[c.q]? =aa (.list (q.reverse.map Wd.v)))(hl:q.length<1000000)(k:∀ {H'},H'[c.q]? =aa (.list ((iU w t.i t.j t.k q).reverse.map Wd.v))->Ex H H' c.q->K .next (gT c w t) H'):gJ (gT c w t) H K:=by
 unfold iU at k
 refine kch gJ_nf ?_
 by_cases q1:t.i+t.k<w.ah
 ·by_cases q2:t.j+t.k<w.bh
  ·rw[aw ⟨q1,q2⟩,m4]at k
   rw[ao q1,ao q2]
   exact gP2_i h (qlen hl) (k (aG h _) .set)
  ·rw[aq λz=>q2 z.2]at k
   rw[ao q1,bc q2]
   exact k h λ_ _ _ e=>e
 ·rw[aq λz=>q1 z.1]at k
  exact rwL (bc q1) (k h λ_ _ _ e=>e)
theorem gH_i(h:H[c.q]? =aa (.list (q.reverse.map Wd.v)))(hl:q.length<999999)(k:∀ {H'},H'[c.q]? =aa (.list ((iU w t.i t.j t.k (gU w t.i t.j q)).reverse.map Wd.v))->Ex H H' c.q->K .next (gT c w t) H'):gH (gT c w t) H K:=by
 unfold gU at k
 refine kch gH_nf ?_
 by_cases q1:w.al<t.i
 ·by_cases q2:w.bl<t.j
  ·rw[aw ⟨q1,q2⟩]at k
   rw[ao q1,ao q2]
   exact gP1_i h (qlen (ko hl (by decide))) (gJ_i (q:=⟨w.al,t.i,w.bl,t.j⟩::q) (by rw[m4];exact aG h _) (Nat.succ_lt_succ hl) λh1 e=>k h1 (Ex.set.trans e))
  ·rw[aq λz=>q2 z.2]at k
   rw[ao q1,bc q2]
   exact gJ_i h (ko hl (by decide)) k
 ·rw[aq λz=>q1 z.1]at k
  exact rwL (bc q1) (gJ_i h (ko hl (by decide)) k)
theorem qQ(h:H[r]? =aa (.list vs))(hl:vs.length<1000000):tr (.ref r) H=aa (!vs.isEmpty):=by
 show(lst H (.ref r)).bind _=_
 exact rwL (aT h) (aw hl)
theorem q_step{rd:Nat}(S:SM G c.s ra rb rd rj n fs f a b)(gq:G[c.q]? =none)(gm:G[c.m]? =none)(qm:c.q≠c.m)(I:QI a b c G N lo H)(hQ:∀ {lo H},QI a b c G 0 lo H->Q .next lo H):tE (eN "queue") lo H λt H1=>bif t then ∀ K,GoK (λlo' H'=>∃ N',N'<N/\QI a b c G N' lo' H') Q K->gB X lo H1 K else Q .next lo H1:=by
 cases I with
 | @mk q m al ah bl bh i j k x el hx hq hm w r n1 n2=>
 subst el
 have ql:=vY q
 refine aY ⋯ (Lf.mk (qQ hq (qlen (A184 n2 ql))) ?_)
 cases q with
 |nil=>exact hQ (.mk rfl hx hq hm w r (ce _) n2)
 |cons w0 q=>
  rw[m4]at hq ⊢
  rw[show (!(q.reverse.map Wd.v++[w0.v]).isEmpty)=ag by simp]
  intro K go
  have ql3:=Nat.lt_of_succ_lt_succ (A184 n2 ql)
  refine gB_pop hq (qlen ql3) (kch gF_nf ?_)
  have x1:Hx G (H.set c.q (.list (q.reverse.map Wd.v))):=hx.set gq
  have w0k:=w w0 (.head _)
  refine⟨⟨_,(S.hx x1).o⟩,flm_ok X (S.hx x1) w0k λ{i j k H2} e2 B=>gF_set (t:=⟨i,j,k⟩) ?_⟩
  have hq2:=e2 _ _ (aG hq (.list (q.reverse.map Wd.v)))
  have hm2:=e2 _ _ (aJ (m':=.list (q.reverse.map Wd.v)) hm qm)
  have x2:=x1.trans e2
  refine kch gI_nf ?_
  by_cases k0:k=0
  ·subst k0
   refine go.nx ⟨mu q,A185 n1 (nh _ _) rfl,.mk rfl x2 hq2 hm2 (λv hv=>w v (.tail _ hv)) (λr' h=>r r' (.zero B h)) (ce _) ?_⟩
   ·exact A186 n2 rfl
  ·have kp:=by exact A187 k0 B.n.k0
   refine rwL (show (k != 0)=ag from wd.mpr k0) (aW (aI (aBo (v:=T3.v ⟨i,j,k⟩) ⋯ ⋯ hm2 (by rw[ay];exact A188 n2) (gH_i (aJ hq2 qm.symm) ql3 λ{H'} h1 e=>go.nx ⟨_,Nat.lt_of_lt_of_le (mu_sub B kp q) n1,.mk rfl (e.hx (x2.set gm) gq) h1 (rwL cz (e _ _ qm (aG hm2 _))) (w4 w0k B λv hv=>w v (.tail _ hv)) (λr' h=>r r' (.pos B kp h)) (ce _) ?_⟩))))
   ·exact rwL am (rwL bo (A189 n2 (mu_sub B kp q)))
def nL(c:GC)(o1 o2 o3 o4 o5 o6 o7 o8:ae V)(t:T3)(na:Nat)(u1 u2 u3:ae V):Lo:=look [("self",aa (.ref c.s)),("la",aa (.int c.la)),("lb",aa (.int c.lb)),("queue",aa (.ref c.q)),("matching_blocks",aa (.ref c.m)),("alo",o1),("ahi",o2),("blo",o3),("bhi",o4),("i",o5),("j",o6),("k",o7),("x",o8),
  ("i1",aa (.int t.i)),("j1",aa (.int t.j)),("k1",aa (.int t.k)),("non_adjacent",aa (.ref na)),("i2",u1),("j2",u2),("k2",u3)]
def nT:AF:=cG 3 (asC (aN "i2") (asC (aN "j2") (asC (aN "k2") asN)))
def nE:SF:=aB (sIf (tE (eN "k1")) nP (sK .next)) nS
def nB:SF:=aB (sIf (aX (tE (aA (aS id) (aA aL (eN "i1") (eN "k1")) (eN "i2"))) (aX (tE (aA (aS id) (aA aL (eN "j1") (eN "k1")) (eN "j2"))) (tK ag))) (aB (zJ "k1" q8 (eN "k2")) (sK .next)) nE) (sK .next)
def nX(c:GC)(o1 o2 o3 o4 o5 o6 o7 o8:ae V)(t:T3)(na:Nat)(x:T3):Lo:=nL c o1 o2 o3 o4 o5 o6 o7 o8 t na (aa (.int x.i)) (aa (.int x.j)) (aa (.int x.k))
theorem nT_i{o2 o3:ae V}(q:nB (nX c o1 o2 o3 o4 o5 o6 o7 o8 t na x) H K):nT x.v (nL c o1 o2 o3 o4 o5 o6 o7 o8 t na u1 u2 u3) H λlo1 H1=>nB lo1 H1 K:=by
 refine kch (B:=(3=3/\nB (upd (upd (upd (nL c o1 o2 o3 o4 o5 o6 o7 o8 t na u1 u2 u3) "i2" (.int x.i)) "j2" (.int x.j)) "k2" (.int x.k)) H K)) ⋯ ⟨rfl,?_⟩
 delta nL
 rw[aD,aD,aD]
 exact q
theorem nB_nf{o2 o3:ae V}:nB (nX c o1 o2 o3 o4 o5 o6 o7 o8 t na x) H K=(bif decide (t.i+t.k=x.i) then bif decide (t.j+t.k=x.j) then K .next (upd (nX c o1 o2 o3 o4 o5 o6 o7 o8 t na x) "k1" (.int (t.k+x.k))) H else nE (nX c o1 o2 o3 o4 o5 o6 o7 o8 t na x) H (bN (sK .next) K) else nE (nX c o1 o2 o3 o4 o5 o6 o7 o8 t na x) H (bN (sK .next) K)):=by kernel_rfl
theorem nE_nf{o2 o3:ae V}:nE (nX c o1 o2 o3 o4 o5 o6 o7 o8 t na x) H K=(bif t.k != 0 then nP (nX c o1 o2 o3 o4 o5 o6 o7 o8 t na x) H (bN nS K) else nS (nX c o1 o2 o3 o4 o5 o6 o7 o8 t na x) H K):=by kernel_rfl
theorem nP_i{o2 o3:ae V}(h:H[na]? =aa (.list vs))(hl:vs.length<1000000)(k:K .next (nL c o1 o2 o3 o4 o5 o6 o7 o8 t na u1 u2 u3) (H.set na (.list (vs++[t.t])))):nP (nL c o1 o2 o3 o4 o5 o6 o7 o8 t na u1 u2 u3) H K:=by
 delta nP
 exact aI (iV ⋯ (λH Q q=>kch (B:=(3<100/\Q t.t H)) ⋯ ⟨by decide,q⟩) h hl k)
theorem nS_i{o2 o3:ae V}(q:K .next (nX c o1 o2 o3 o4 o5 o6 o7 o8 x na x) H):nS (nX c o1 o2 o3 o4 o5 o6 o7 o8 t na x) H K:=by
 refine kch (B:=(3<100/\3=3/\K .next (upd (upd (upd (nX c o1 o2 o3 o4 o5 o6 o7 o8 t na x) "k1" (.int x.k)) "j1" (.int x.j)) "i1" (.int x.i)) H)) ⋯ ⟨by decide,rfl,?_⟩
 unfold nX nL
 rw[aD,aD,aD]
 exact q
theorem nK_i{o2 o3:ae V}(q:K .next (nX c o1 o2 o3 o4 o5 o6 o7 o8 ⟨t.i,t.j,k⟩ na x) H):K .next (upd (nX c o1 o2 o3 o4 o5 o6 o7 o8 t na x) "k1" (.int k)) H:=by
 unfold nX nL
 rw[aD]
 exact q
inductive NI(c:GC)(na:Nat)(G:MH)(all:ac T3)(rest:ac V)(lo:Lo)(H:MH):Prop
 |mk {o1 o2 o3 o4 o5 o6 o7 o8 u1 u2 u3:ae V}{t:T3}{acc l:ac T3} (el:lo=nL c o1 o2 o3 o4 o5 o6 o7 o8 t na u1 u2 u3) (er:rest=l.map T3.v) (hx:Hx G H) (hn:H[na]? =aa (.list (acc.map T3.t)))
   (e:acc++nad t l=all) (n:acc.length+l.length<=1000):NI c na G all rest lo H
theorem n_step(gn:G[na]? =none)(I:NI c na G all (v::rest) lo H)(go:GoK (NI c na G all rest) Q K):nT v lo H λlo1 H1=>nB lo1 H1 K:=by
 cases I with
 | @mk o1 o2 o3 o4 o5 o6 o7 o8 u1 u2 u3 t acc l el er hx hn e n=>
 refine bZ (List.map_eq_cons_iff.mp er.symm) λx l' e1 e2 e3=>?_
 subst e1 e2 e3 el
 rw[cq]at n
 refine nT_i (kch nB_nf ?_)
 rw[xK]at e
 have other: ¬(t.i+t.k=x.i/\t.j+t.k=x.j)->nE (nX c o1 o2 o3 o4 o5 o6 o7 o8 t na x) H (bN (sK .next) K):=λz=>by
  rw[aq z]at e
  refine kch nE_nf ?_
  by_cases q:t.k=0
  ·rw[aw q]at e
   exact rwL (show (t.k != 0)=af from by rw[q];rfl) (aR (nS_i (go.nx (.mk rfl rfl hx hn e (A190 n)))))
  ·rw[aq q]at e
   refine rwL (show (t.k != 0)=ag from wd.mpr q) (aW (nP_i hn (by rw[ay];exact A191 n) (nS_i (go.nx (.mk (acc:=acc++[t]) rfl rfl (hx.set gn) (rwL cz (aG hn _)) ?_ ?_)))))
   ·rw[dz];exact e
   ·exact rwL am (rwL bo (A192 n))
 by_cases q1:t.i+t.k=x.i
 ·by_cases q2:t.j+t.k=x.j
  ·rw[aw ⟨q1,q2⟩]at e
   rw[ao q1,ao q2]
   exact nK_i (go.nx (.mk rfl rfl hx hn e (A190 n)))
  ·rw[ao q1,bc q2]
   exact other λz=>q2 z.2
 ·exact rwL (bc q1) (other λz=>q1 z.1)
theorem aGg{P:ae (V×(Nat×Nat))->MH->Prop}{hm:o0 C 2}(hl:lst H (.ref r)=aa vs)(e:vs[p]? =none)(h:P none H):(rP C 2 hm).nx (r,p) H P:=Lf.mk hl (by exact rwL e h)
theorem aGf{P:ae (V×(Nat×Nat))->MH->Prop}{hm:o0 C 2}{t:T3}(hl:lst H (.ref r)=aa vs)(e:vs[p]? =aa t.t)(h:P (aa (t.v,(r,p+1))) H):(rP C 2 hm).nx (r,p) H P:=Lf.mk hl (by exact rwL e h)
theorem xO{hm:o0 C 2}(hl:G[na]? =aa (.list (l.map T3.t)))(ga:G[ai]? =none)(ll:l.length<1000000)(k:∀ {H'},Hx G H'->H'[ai]? =aa (.list (l.map T3.v))->P H'):∀ (rest done:ac T3){H:MH},done++rest=l->Hx G H->H[ai]? =aa (.list (done.map T3.v))->iB (rP C 2 hm) ai (rest.length+1) (na,done.length) H P:=λn=>by
 induction n with
 |nil=>
  intro done H e hx h
  rw[cw]at e
  subst e
  exact aGg (aT (hx _ _ hl)) (eu (by rw[ay];exact ce _)) (k hx h)
 |cons t rest ih=>
  refine λdone H e hx h=>(aGf (t:=t) (aT (hx _ _ hl)) ?_ (Lf.mk (gN h) ⟨?_,?_⟩))
  ·rw[gp,<-e,dg (ce _),qe];rfl
  ·rw[ay]
   rw[<-e,am]at ll
   exact du (ly _ _) ll
  ·have:=ih (done++[t]) (by rw[dz];exact e) (hx.set ga) (by exact rwL cz (aG h _))
   rw[am]at this
   exact this
theorem len_i(h:LI H r l)(hl:l.length<1000000)(q:Q (.int l.length) H):cM [.ref r] H Q:=by
 refine Lp.mk ?_ q
 show(lst H (.ref r)).bind _=_
 rw[h]
 show(if (l.map V.int).length<1000000 then _ else _)=_
 rw[ay,aw hl]
theorem xZ(x:T3):∀ l:ac T3,ins fF x.v (l.map T3.v)=(ins T3.i x l).map T3.v:=λn=>by
 induction n with
 |nil=>
  exact rfl
 |cons y r ih=>
  show(if x.i<y.i then x.v::y.v::r.map T3.v else y.v::ins fF x.v (r.map T3.v))=(if x.i<y.i then x::y::r else y::ins T3.i x r).map T3.v
  refine rwL ih ?_
  split<;>rfl
theorem qA:∀ l:ac T3,isort fF (l.map T3.v)=(isort T3.i l).map T3.v
 | []=>rfl
 |x::r=>by
  show ins fF x.v (isort fF (r.map T3.v))=(ins T3.i x (isort T3.i r)).map T3.v
  rw[qA r,xZ]
def Blocks(a b:ac Int)(bl:ac T3):Prop:=∃ r,Run a b [⟨0,a.length,0,b.length⟩] [] r/\bl=nad ⟨0,0,0⟩ (isort T3.i r)++[⟨a.length,b.length,0⟩]
theorem Blocks.uniq(h:Blocks a b l)(h':Blocks a b l'):l=l':=by
 refine xEA h λr h1 h2=>xEA h' λr' h3 h4=>?_
 cases h1.uniq h3
 rw[h2,h4]
theorem fG_0:loB ["self"] [.ref s] lo0=look (fG (aa (.ref s)) none none none none none none none none none none none none):=by
 rw[<-fK (fG none none none none none none none none none none none none none) ⋯]
 show upd _ "self" (.ref s)=_
 rw[aD];kernel_rfl
theorem aG2:bK X [.ref s] H Q=(1=1/\At s "matching_blocks" H λv=>Lp (oIs not v .none H) λv H1=>Lf (tr v H1) λb=>bif b then At s "matching_blocks" H1 λv=>Q v H1 else gR2 X (loB ["self"] [.ref s] lo0) H1 (kY Q)):=by kernel_rfl
theorem g_2:gR2 X (look (fG (aa (.ref s)) none none none none none none none none none none none none)) H K=(At s "a" H λva=>cM [va] H λn H1=>At s "b" H1 λvb=>cM [vb] H1 λm H2=>2<100/\2=2/\ aB (bU X) (aB (bT X) (aB (bS X) (gR6 X))) (upd (upd (look (fG (aa (.ref s)) none none none none none none none none none none none none)) "lb" m) "la" n) H2 K):=by kernel_rfl
theorem g_34:aB (bU X) (aB (bT X) (aB (bS X) (gR6 X))) (look (fG (aa (.ref s)) (aa (.int la)) (aa (.int lb)) none none none none none none none none none none)) H K= (4<100/\∃ n,runW (tE (eN "queue")) (gB X) n (upd (upd (look (fG (aa (.ref s)) (aa (.int la)) (aa (.int lb)) none none none none none none none none none none)) "queue" (.ref H.length)) "matching_blocks" (.ref (H++[MO.list [Wd.v ⟨0,la,0,lb⟩]]).length)) ((H++[.list [Wd.v ⟨0,la,0,lb⟩]])++[.list []]) (bN (gR6 X) K)):=by kernel_rfl
theorem aFr(h:tE (eN x) lo H P)(k:∀ c H',P c H'->P' c H'):tE (eN x) lo H P':=Lf.elim h λv e h=>Lf.mk e (Lf.elim h λc e h=>Lf.mk e (k _ _ h))
def gR11:SF:=aB (bM X) (gR12 X)
def gR10:SF:=aB (cF X) (gR11 X)
def gR9:SF:=aB (cK X) (gR10 X)
theorem g_6{o2 o3:ae V}:gR6 X (gL c o1 o2 o3 o4 o5 o6 o7 o8) H K=(Lf (H[c.m]?.bind MO.own) λvs=>okSort vs/\gR9 X (upd (upd (upd (upd (gL c o1 o2 o3 o4 o5 o6 o7 o8) "i1" (.int 0)) "j1" (.int 0)) "k1" (.int 0)) "non_adjacent" (.ref (H.set c.m (.list (isort fF vs))).length)) (H.set c.m (.list (isort fF vs))++[.list []]) K):=by kernel_rfl
theorem g_6n{o2 o3:ae V}:upd (upd (upd (upd (gL c o1 o2 o3 o4 o5 o6 o7 o8) "i1" (.int 0)) "j1" (.int 0)) "k1" (.int 0)) "non_adjacent" (.ref na)=nL c o1 o2 o3 o4 o5 o6 o7 o8 ⟨0,0,0⟩ na none none none:=by
 unfold gL nL
 rw[aD,aD,aD,aD];kernel_rfl
theorem g_9{o2 o3:ae V}:gR9 X (nL c o1 o2 o3 o4 o5 o6 o7 o8 t na u1 u2 u3) H K=((∃ vs,lst H (.ref c.m)=aa vs)/\∃ n,cZ (cC C) nT nB n (c.m,0) (nL c o1 o2 o3 o4 o5 o6 o7 o8 t na u1 u2 u3) H (bN (gR10 X) K)):=by kernel_rfl
theorem g_10{o2 o3:ae V}:gR10 X (nL c o1 o2 o3 o4 o5 o6 o7 o8 t na u1 u2 u3) H K=(bif t.k != 0 then nP (nL c o1 o2 o3 o4 o5 o6 o7 o8 t na u1 u2 u3) H (bN (gR11 X) K) else gR11 X (nL c o1 o2 o3 o4 o5 o6 o7 o8 t na u1 u2 u3) H K):=by kernel_rfl
theorem g_12{o2 o3:ae V}:gR12 X (nL c o1 o2 o3 o4 o5 o6 o7 o8 t na u1 u2 u3) H (kY Q)=((∃ vs,lst H (.ref na)=aa vs)/\∃ n,iB (rP C 2 X.makeM) H.length n (na,0) (H++[.list []]) λH2=>St c.s "matching_blocks" (.ref H.length) H2 λH3=>At c.s "matching_blocks" H3 λv=>Q v H3):=by kernel_rfl
theorem g_11{o2 o3:ae V}(h:H[na]? =aa (.list vs))(hl:vs.length<1000000)(k:gR12 X (nL c o1 o2 o3 o4 o5 o6 o7 o8 t na u1 u2 u3) (H.set na (.list (vs++[T3.t ⟨c.la,c.lb,0⟩]))) K):gR11 X (nL c o1 o2 o3 o4 o5 o6 o7 o8 t na u1 u2 u3) H K:=by
 exact aI (iV ⋯ (λH Q q=>kch (B:=(3<100/\Q (T3.t ⟨c.la,c.lb,0⟩) H)) ⋯ ⟨by decide,q⟩) h hl k)
theorem g_1011{o2 o3:ae V}(h:H[na]? =aa (.list (acc.map T3.t)))(hl:acc.length<999999)(e:acc++nad t []=all)(k:∀ {H'},Ex H H' na->H'[na]? =aa (.list ((all++[T3.mk c.la c.lb 0]).map T3.t))->gR12 X (nL c o1 o2 o3 o4 o5 o6 o7 o8 t na u1 u2 u3) H' K):gR10 X (nL c o1 o2 o3 o4 o5 o6 o7 o8 t na u1 u2 u3) H K:=by
 refine kch (g_10 X) ?_
 rw[xJ]at e
 subst e
 by_cases q:t.k=0
 ·rw[aw q,cw]at k
  exact rwL (show (t.k != 0)=af from by rw[q];rfl) (aR (g_11 X h (by rw[ay];exact ko hl (by decide)) (k .set (rwL cz (aG h _)))))
 ·rw[aq q]at k
  exact rwL (show (t.k != 0)=ag from wd.mpr q) (aW (nP_i h (by rw[ay];exact ko hl (by decide)) (g_11 X (aG h (.list (acc.map T3.t++[t.t]))) (by rw[am,ay];exact Nat.succ_lt_succ hl) (k (Ex.set.trans .set) (rwL cz (rwL cz (aG (aG h (.list (acc.map T3.t++[t.t]))) _)))))))
theorem gmb_ok{rd:Nat}(S:SM H s ra rb rd rj n fs f a b)(hm:fs "matching_blocks" =aa .none)(al:a.length<200)(ok:∀ r,Run a b [⟨0,a.length,0,b.length⟩] [] r->okSort (r.map T3.v))(k:∀ {H' r bl},Ex H H' s->H[r]? =none->r≠s->H'[s]? =aa (.inst (fput fs "matching_blocks" (.ref r)))->H'[r]? =aa (.list (bl.map T3.v))->Blocks a b bl->Q (.ref r) H'):bK X [.ref s] H Q:=by
 refine kch (aG2 X) ⟨rfl,At.mk S.o hm (Lp.mk rfl (Lf.mk rfl (aR (rwL fG_0 (kch (g_2 X) (At.mk S.o S.fa (len_i S.ia S.al (At.mk S.o S.fb (len_i S.ib S.bl ⟨by decide,rfl,?_⟩)))))))))⟩
 rw[aD,aD]
 refine kch (g_34 X) ⟨by decide,2000,?_⟩
 rw[aD,aD]
 have el:(H++[MO.list [Wd.v ⟨0,a.length,0,b.length⟩]]).length=H.length+1:=am
 have gm:H[(H++[MO.list [Wd.v ⟨0,a.length,0,b.length⟩]]).length]? =none:=by exact rwL el (eu (lw _))
 refine while_ (QI a b ⟨s,a.length,b.length,H.length,(H++[MO.list [Wd.v ⟨0,a.length,0,b.length⟩]]).length⟩ H) (λI=>q_step X S (aM H) gm (by exact rwL el ((Nat.succ_ne_self _).symm):H.length≠(H++[MO.list [Wd.v ⟨0,a.length,0,b.length⟩]]).length) I ?_) aFr 2000 1000 (by decide)
  (.mk (q:=[⟨0,a.length,0,b.length⟩]) rfl ((Hx.app _ _).trans (.app _ _)) (Hx.app _ _ _ _ (bC _ _)) (bC _ _) (λv hv=>?_) (λr h=>h) ?_ ?_)
 ·intro lo H1 I
  cases I with
  | @mk q m o1 o2 o3 o4 o5 o6 o7 o8 el hx hq hm w r n1 n2=>
  subst el
  have q0:=List.eq_nil_of_length_eq_zero (Nat.le_zero.mp (Nat.le_trans (vY q) n1))
  subst q0
  refine kch (g_6 X) (Lf.mk (gN hm) ⟨ok m (r m .nil),?_⟩)
  rw[g_6n,qA]
  have h2:=aG hm (.list ((isort T3.i m).map T3.v))
  have x2:=hx.set (m:=.list ((isort T3.i m).map T3.v)) gm
  revert h2 x2
  generalize H1.set _ (.list ((isort T3.i m).map T3.v))=H2
  intro h2 x2
  refine kch (g_9 X) ⟨⟨_,aT (Hx.app _ _ _ _ h2)⟩,_,fV (NI ⟨s,a.length,b.length,H.length,_⟩ H2.length H2 (nad ⟨0,0,0⟩ (isort T3.i m))) (λI=>?_) (λI=>?_) (λI go=>n_step (aM H2) I go) ((isort T3.i m).map T3.v) 0 rfl
   (.mk rfl rfl (.app _ _) (bC _ _) rfl (by rw[pu,Nat.zero_add];exact (by exact rwL ((cQ T3.i m).length_eq) n2:(isort T3.i m).length<=1000)))⟩
  ·cases I with
   |mk el er hx=>exact aT (hx _ _ h2)
  ·cases I with
   | @mk p1 p2 p3 p4 p5 p6 p7 p8 u1 u2 u3 t acc l el er hx hn e n=>
   subst el
   cases List.map_eq_nil_iff.mp er.symm
   refine g_1011 X hn (by exact A193 (rwR pu n)) e λ{H6} x6 h6=>kch (g_12 X) ⟨⟨_,aT h6⟩,_,xO h6 (aM H6) ?_ (λ{H7} x7 h7=>?_) _ [] (List.nil_append _) (.app _ _) (bC _ _)⟩
   ·have:(nad t []).length<=1:=by
     rw[xJ];split
     ·exact gw 1
     ·exact ce 1
    exact rwL am (rwL bo (A194 n this (by rw[<-e,am]:(nad ⟨0,0,0⟩ (isort T3.i m)).length=acc.length+(nad t []).length)))
   ·have e7:=(x2.trans (x6.hx hx (aM H2))).trans x7
    have s7:=e7 _ _ S.o
    have sne:H6.length≠s:=λz=>by
     have:=(x2.trans (x6.hx hx (aM H2))) _ _ S.o
     rw[<-z,aM]at this;cases this
    refine St.mk s7 (At.mk (aG s7 _) ⋯ (k (λj m n e=>aJ (e7 _ _ e) n) ((x2.trans (x6.hx hx (aM H2))).fresh) sne (aG s7 _) (aJ h7 sne.symm) ⟨m,(r m .nil),rfl⟩))
 ·cases cy.mp hv
  exact⟨Int.le_refl _,cj _,Int.le_refl _,Int.le_refl _,cj _,Int.le_refl _⟩
 ·exact(Yj1 al:2*((a.length:Int)-0).toNat+1+0<=1000)
 ·exact(Yj0 al:0+(2*((a.length:Int)-0).toNat+1+0)<=1000)
def Tg.s:Tg->Str | .rep=> "replace" | .del=> "delete" | .ins=> "insert" | .eq=> "equal"
def Op.v(o:Op):V:=.tup [.str o.tag.s,.int o.i1,.int o.i2,.int o.j1,.int o.j2]
def oL(s ans:Nat)(i j:Int)(u1 u2 u3 u4:ae V):Lo:=look [("self",aa (.ref s)),("i",aa (.int i)),("j",aa (.int j)),("answer",aa (.ref ans)),("ai",u1),("bj",u2),("size",u3),("tag",u4)]
def oX(s ans:Nat)(i j:Int)(t:T3)(u4:ae V):Lo:=oL s ans i j (aa (.int t.i)) (aa (.int t.j)) (aa (.int t.k)) u4
def oT:AF:=cG 3 (asC (aN "ai") (asC (aN "bj") (asC (aN "size") asN)))
def oBR(R:SF):SF:=aB (bF "tag" (eK (.str ""))) (aB (sIf (aX (tE (aA oLt (eN "i") (eN "ai"))) (aX (tE (aA oLt (eN "j") (eN "bj"))) (tK ag))) (aB (bF "tag" (eK (.str "replace"))) (sK .next)) (aB (sIf (tE (aA oLt (eN "i") (eN "ai"))) (aB (bF "tag" (eK (.str "delete"))) (sK .next)) (aB (sIf (tE (aA oLt (eN "j") (eN "bj"))) (aB (bF "tag" (eK (.str "insert"))) (sK .next)) (sK .next)) (sK .next))) (sK .next))) R)
def oB:SF:=oBR oR
theorem oT_i(q:oB (oX s ans i j t u4) H K):oT t.v (oL s ans i j u1 u2 u3 u4) H λlo1 H1=>oB lo1 H1 K:=by
 refine kch (B:=(3=3/\oB (upd (upd (upd (oL s ans i j u1 u2 u3 u4) "ai" (.int t.i)) "bj" (.int t.j)) "size" (.int t.k)) H K)) ⋯ ⟨rfl,?_⟩
 delta oL
 rw[aD,aD,aD]
 exact q
theorem aB1(q:oR (oX s ans i j t (aa (.str y))) H K):oR (upd (upd (oX s ans i j t u4) "tag" (.str x)) "tag" (.str y)) H K:=by
 unfold oX oL
 rw[aD,aD]
 exact q
theorem o_tag0(q:oR (oX s ans i j t (aa (.str x))) H K):oR (upd (oX s ans i j t u4) "tag" (.str x)) H K:=by
 unfold oX oL
 rw[aD]
 exact q
theorem oB_nf(R:SF):oBR R (oX s ans i j t u4) H K=(bif decide (i<t.i) then bif decide (j<t.j) then R (upd (upd (oX s ans i j t u4) "tag" (.str "")) "tag" (.str "replace")) H K else(bif decide (i<t.i) then R (upd (upd (oX s ans i j t u4) "tag" (.str "")) "tag" (.str "delete")) H K else bif decide (j<t.j) then R (upd (upd (oX s ans i j t u4) "tag" (.str "")) "tag" (.str "insert")) H K else R (upd (oX s ans i j t u4) "tag" (.str "")) H K) else(bif decide (i<t.i) then R (upd (upd (oX s ans i j t u4) "tag" (.str "")) "tag" (.str "delete")) H K else bif decide (j<t.j) then R (upd (upd (oX s ans i j t u4) "tag" (.str "")) "tag" (.str "insert")) H K else R (upd (oX s ans i j t u4) "tag" (.str "")) H K)):=by kernel_rfl
theorem t_rep:Str.ofString "replace" =Tg.s .rep:=rfl
theorem t_del:Str.ofString "delete" =Tg.s .del:=rfl
theorem t_ins:Str.ofString "insert" =Tg.s .ins:=rfl
theorem oR_0:oR (oX s ans i j t (aa (.str ""))) H K=oR2 (oX s ans i j t (aa (.str ""))) H K:=by kernel_rfl
theorem oR_1(g:Tg):oR (oX s ans i j t (aa (.str g.s))) H K=oP1 (oX s ans i j t (aa (.str g.s))) H (bN oR2 K):=by cases g<;>kernel_rfl
theorem oP1_i(h:H[ans]? =aa (.list vs))(hl:vs.length<1000000)(k:K .next (oX s ans i j t (aa (.str x))) (H.set ans (.list (vs++[.tup [.str x,.int i,.int t.i,.int j,.int t.j]])))):oP1 (oX s ans i j t (aa (.str x))) H K:=by
 delta oP1
 exact aI (iV ⋯ (λH Q q=>kch (B:=(5<100/\Q (.tup [.str x,.int i,.int t.i,.int j,.int t.j]) H)) ⋯ ⟨by decide,q⟩) h hl k)
theorem oR2_i(q:oR3 (oX s ans (t.i+t.k) (t.j+t.k) t u4) H K):oR2 (oX s ans i j t u4) H K:=by
 refine kch (B:=(2<100/\2=2/\oR3 (upd (upd (oX s ans i j t u4) "j" (.int (t.j+t.k))) "i" (.int (t.i+t.k))) H K)) ⋯ ⟨by decide,rfl,?_⟩
 unfold oX oL
 rw[aD,aD]
 exact q
theorem oR3_nf:oR3 (oX s ans i j t u4) H K=(bif t.k != 0 then oP2 (oX s ans i j t u4) H (bN (sK .next) K) else K .next (oX s ans i j t u4) H):=by kernel_rfl
theorem oP2_i(h:H[ans]? =aa (.list vs))(hl:vs.length<1000000)(k:K .next (oX s ans i j t u4) (H.set ans (.list (vs++[Op.v ⟨.eq,t.i,i,t.j,j⟩])))):oP2 (oX s ans i j t u4) H K:=by
 delta oP2
 exact aI (iV ⋯ (λH Q q=>kch (B:=(5<100/\Q (Op.v ⟨.eq,t.i,i,t.j,j⟩) H)) ⋯ ⟨by decide,q⟩) h hl k)
theorem oR2_k(h:H[ans]? =aa (.list (acc.map Op.v)))(hl:acc.length<1000000)(k:∀ {H'},Ex H H' ans->H'[ans]? =aa (.list ((acc++if t.k=0 then [] else [Op.mk .eq t.i (t.i+t.k) t.j (t.j+t.k)]).map Op.v))->K .next (oX s ans (t.i+t.k) (t.j+t.k) t u4) H'):oR2 (oX s ans i j t u4) H K:=by
 refine oR2_i (kch oR3_nf ?_)
 by_cases q:t.k=0
 ·rw[aw q,cw]at k
  rw[show (t.k != 0)=af from by rw[q];rfl]
  exact aR (k (λ_ _ _ e=>e) h)
 ·rw[aq q,cz]at k
  rw[show (t.k != 0)=ag from wd.mpr q]
  exact aW (oP2_i h (by rw[ay];exact hl) (k .set (aG h _)))
theorem oR_k(g:Tg)(h:H[ans]? =aa (.list (acc.map Op.v)))(hl:acc.length<999999)(k:∀ {H'},Ex H H' ans->H'[ans]? =aa (.list (((acc++[Op.mk g i t.i j t.j])++if t.k=0 then [] else [Op.mk .eq t.i (t.i+t.k) t.j (t.j+t.k)]).map Op.v))->K .next (oX s ans (t.i+t.k) (t.j+t.k) t (aa (.str g.s))) H'):oR (oX s ans i j t (aa (.str g.s))) H K:=by
 refine kch (oR_1 g) (oP1_i h (by rw[ay];exact ko hl (by decide)) (oR2_k (rwL cz (aG h _)) ?_ λe h'=>k (Ex.set.trans e) h'))
 ·exact rwL am (Nat.succ_lt_succ hl)
theorem oB_k(h:H[ans]? =aa (.list (acc.map Op.v)))(hl:acc.length<999999)(k:∀ {H' u},Ex H H' ans->H'[ans]? =aa (.list ((acc++(gap i j t.i t.j++if t.k=0 then [] else [Op.mk .eq t.i (t.i+t.k) t.j (t.j+t.k)])).map Op.v))->K .next (oX s ans (t.i+t.k) (t.j+t.k) t u) H'):oB (oX s ans i j t u4) H K:=by
 refine kch (oB_nf oR) ?_
 unfold gap at k
 by_cases q1:i<t.i
 ·by_cases q2:j<t.j
  ·rw[aw q1,aw q2,<-dz]at k
   rw[ao q1,ao q2]
   exact rwL t_rep (aW (aW (aB1 (oR_k .rep h hl k))))
  ·rw[aw q1,aq q2,<-dz]at k
   rw[ao q1,bc q2]
   exact rwL t_del (aW (aR (aW (aB1 (oR_k .del h hl k)))))
 ·by_cases q2:j<t.j
  ·rw[aq q1,aw q2,<-dz]at k
   rw[bc q1,ao q2]
   exact rwL t_ins (aR (aR (aW (aB1 (oR_k .ins h hl k)))))
  ·rw[aq q1,aq q2,List.nil_append]at k
   rw[bc q1,bc q2]
   exact aR (aR (aR (o_tag0 (kch oR_0 (oR2_k h (ko hl (by decide)) k)))))
inductive OI(s ans:Nat)(G:MH)(all:ac Op)(rest:ac V)(lo:Lo)(H:MH):Prop
 |mk {u1 u2 u3 u4:ae V}{i j:Int}{acc:ac Op}{l:ac T3} (el:lo=oL s ans i j u1 u2 u3 u4) (er:rest=l.map T3.v) (hx:Ex G H ans) (hn:H[ans]? =aa (.list (acc.map Op.v)))
   (e:acc++ops i j l=all) (n:acc.length+2*l.length<=100000):OI s ans G all rest lo H
theorem o_step(I:OI s ans G all (v::rest) lo H)(go:GoK (OI s ans G all rest) Q K):oT v lo H λlo1 H1=>oB lo1 H1 K:=by
 cases I with
 | @mk u1 u2 u3 u4 i j acc l el er hx hn e n=>
 refine bZ (List.map_eq_cons_iff.mp er.symm) λx l' e1 e2 e3=>?_
 subst e1 e2 e3 el
 rw[cq]at n
 rw[ops_c]at e
 refine oT_i (oB_k hn (A197 n) λ{H' u} e' h'=>go.nx (.mk rfl rfl (hx.trans e') h' ?_ ?_))
 ·rw[dz,dz];exact e
 ·have g1:(gap i j x.i x.j).length<=1:=by
   delta gap
   split<;>split<;>first |exact ce 1 |exact gw 1
  have g2:(if x.k=0 then [] else [(⟨.eq,x.i,x.i+x.k,x.j,x.j+x.k⟩:Op)]).length<=1:=by
   split
   ·exact gw 1
   ·exact ce 1
  exact rwL am (rwL am (A198 n g1 g2))
theorem aCc{r:Nat}(h:H[s]? =aa m)(h':H[r]? =aa m')(n:m≠m'):s≠r:=λz=>by
 subst z
 exact n (Option.some.inj (h.symm.trans h'))
theorem Ex.li(e:Ex H H' s)(h:H[s]? =aa (.inst fs))(q:LI H r l):LI H' r l:=by
 refine xEA (aj.mp q) λi hi q=>xEA (aj.mp q) λm hm q=>aj.mpr ⟨i,hi,aj.mpr ⟨m,e _ _ (aCc h hm λz=>?_) hm,q⟩⟩
 subst z
 cases q
theorem SM.ex{rd:Nat}(S:SM H s ra rb rd rj n fs f a b)(e:Ex H H' s)(o:H'[s]? =aa (.inst fs'))(ea:fs' "a" =fs "a")(eb:fs' "b" =fs "b")(ed:fs' "b2j" =fs "b2j")(ej:fs' "bjunk" =fs "bjunk"):SM H' s ra rb rd rj n fs' f a b:=⟨o,ea.trans S.fa,eb.trans S.fb,ed.trans S.fd,ej.trans S.fj,e.li S.o S.ia,e.li S.o S.ib,e _ _ (aCc S.o S.d nofun) S.d,e _ _ (aCc S.o S.j nofun) S.j,λv=>(S.bj v).imp_right fun⟨r,js,h1,h2,h3⟩=>⟨r,js,h1,e.li S.o h2,h3⟩,S.al,S.bl⟩
def oN(s i j ans:ae V):Nv:=[("self",s),("i",i),("j",j),("answer",ans),("ai",none),("bj",none),("size",none),("tag",none)]
theorem oN_0:loB ["self"] [.ref s] lo0=look (oN (aa (.ref s)) none none none):=by
 rw[<-fK (oN none none none none) ⋯]
 show upd _ "self" (.ref s)=_
 rw[aD];kernel_rfl
def oR5:SF:=aB (iM X) (sK .next)
def oR4:SF:=aB (iN X) (oR5 X)
def oRA(R:SF):SF:=aB (iP X) (aB (iO X) R)
theorem xD:aU X [.ref s] H Q=(1=1/\At s "opcodes" H λv=>Lp (oIs not v .none H) λv H1=>Lf (tr v H1) λb=>bif b then At s "opcodes" H1 λv=>Q v H1 else oRA X (oR4 X) (loB ["self"] [.ref s] lo0) H1 (kY Q)):=by kernel_rfl
theorem o_23(R:SF):oRA X R (look (oN (aa (.ref s)) none none none)) H K=(St s "opcodes" (.ref H.length) (H++[.list []]) λH2=>R (upd (upd (upd (look (oN (aa (.ref s)) none none none)) "i" (.int 0)) "j" (.int 0)) "answer" (.ref H.length)) H2 K):=by kernel_rfl
theorem o_4:oR4 X (oL s ans 0 0 none none none none) H K=((∃ ff,H[s]? =aa (.inst ff))/\bK X [.ref s] H λv H2=>Lf v.rf λi=>(∃ vs,lst H2 (.ref i)=aa vs)/\∃ n,cZ (cC C) oT oB n (i,0) (oL s ans 0 0 none none none none) H2 (bN (oR5 X) K)):=by kernel_rfl
theorem o_5:oR5 X (oL s ans i j u1 u2 u3 u4) H (kY Q)=Q (.ref ans) H:=by kernel_rfl
def fsO(fs:Str->ae V)(ans r:Nat):Str->ae V:=fput (fput fs "opcodes" (.ref ans)) "matching_blocks" (.ref r)
theorem go_ok{rd:Nat}(S:SM H s ra rb rd rj n fs f a b)(hm:fs "matching_blocks" =aa .none)(ho:fs "opcodes" =aa .none)(al:a.length<200)(ok:∀ r,Run a b [⟨0,a.length,0,b.length⟩] [] r->okSort (r.map T3.v))(len:∀ bl,Blocks a b bl->bl.length<=1000)(k:∀ {H' r bl},Ex H H' s->H.length≠s->H'[s]? =aa (.inst (fsO fs H.length r))->H'[H.length]? =aa (.list ((ops 0 0 bl).map Op.v))->Blocks a b bl->Q (.ref H.length) H'):aU X [.ref s] H Q:=by
 refine kch (xD X) ⟨rfl,At.mk S.o ho (Lp.mk rfl (Lf.mk rfl (aR ?_)))⟩
 rw[oN_0]
 have x1:=Hx.app H [MO.list []]
 have ns:=cI S.o
 refine kch (o_23 X (oR4 X)) (St.mk (x1 _ _ S.o) ?_)
 rw[aD,aD,aD]
 have s2:=aG (x1 _ _ S.o) (.inst (fput fs "opcodes" (.ref H.length)))
 have e2:Ex H ((H++[MO.list []]).set s (.inst (fput fs "opcodes" (.ref H.length)))) s:=λj m n e=>aJ (x1 _ _ e) n
 refine kch (o_4 X) ⟨⟨_,s2⟩,gmb_ok X (S.ex e2 s2 ⋯ ⋯ ⋯ ⋯) (kch ⋯ hm) al ok λ{H3 r bl} e3 hr rs s3 h3 B=>Lf.mk rfl ⟨⟨_,aT h3⟩,_,fV (OI s H.length H3 (ops 0 0 bl)) (λI=>?_) (λI=>?_) (λI go=>o_step I go) (bl.map T3.v) 0 rfl
  (.mk (acc:=[]) rfl rfl (λ_ _ _ e=>e) (e3 _ _ ns.symm (aJ (bC _ _) ns.symm)) rfl (by exact rwL pu (A200 (len bl B))))⟩⟩
 ·cases I with
  |mk el er hx=>exact aT (hx _ _ (λz=>by rw[<-z,(aJ (bC _ _) ns.symm)]at hr;exact cyM hr) h3)
 ·cases I with
  | @mk u1 u2 u3 u4 i j acc l el er hx hn e n=>
  subst el
  cases List.map_eq_nil_iff.mp er.symm
  rw[ops_n,cw]at e
  subst e
  exact kch (o_5 X) (k (λj m q h=>hx _ _ (λz=>by rw[<-z,aM]at h;cases h) (e3 _ _ q (e2 _ _ q h))) ns (hx _ _ ns s3) hn B)
theorem Run.okSort(h:Run a b [⟨0,a.length,0,b.length⟩] [] r)(rl:r.length<64):okSort (r.map T3.v):=by
 exact⟨λv hv=>(xEA (we.mp hv) λt _ e=>e▸rfl),List.pairwise_map.mpr h.sorted.1,by rw[ay];exact rl⟩
theorem Blocks.len(h:Blocks a b l)(al:a.length<200):l.length<=1000:=by
 refine xEA h λr h1 h2=>?_
 have:=rB (isort T3.i r) ⟨0,0,0⟩
 rw[(cQ T3.i r).length_eq]at this
 have:=h1.len
 rw[h2,am,bo]
 omega
def Ops(a b:ac Int)(l:ac Op):Prop:=∃ bl,Blocks a b bl/\l=ops 0 0 bl
theorem Ops.uniq(h:Ops a b l)(h':Ops a b l'):l=l':=by
 refine xEA h λr h1 h2=>xEA h' λr' h3 h4=>?_
 rw[h2,h4,h1.uniq h3]
theorem Ops.cod(h:Ops a b l):Cod a b none 0 0 l:=by
 refine xEA h λbl z184 z185=>?_;clear h;obtain⟨r,h1,rfl⟩:=z184;subst z185
 exact(nad_0 h1.sorted.2).cod (cj _) (cj _)
theorem nC{rd:Nat}(S:SM H s ra rb rd rj n fs f a b)(hm:fs "matching_blocks" =aa .none)(ho:fs "opcodes" =aa .none)(al:a.length<200)(rl:∀ r,Run a b [⟨0,a.length,0,b.length⟩] [] r->r.length<64)(k:∀ {H' r l},Ex H H' s->H.length≠s->H'[s]? =aa (.inst (fsO fs H.length r))->H'[H.length]? =aa (.list (l.map Op.v))->Ops a b l->Q (.ref H.length) H'):aU X [.ref s] H Q:=go_ok X S hm ho al (λr h=>h.okSort (rl r h)) (λbl h=>h.len al) λe1 e2 e3 e4 B=>k e1 e2 e3 e4 ⟨_,B,rfl⟩
def Tg.isEq:Tg->dj | .eq=>ag |_=>af
def Op.hd(o:Op)(n:Int):Op:=⟨o.tag,o.i1,min o.i2 (o.i1+n),o.j1,min o.j2 (o.j1+n)⟩
def Op.tl(o:Op)(n:Int):Op:=⟨o.tag,max o.i1 (o.i2-n),o.i2,max o.j1 (o.j2-n),o.j2⟩
def bE(n:Int)(o:Op):dj:=o.tag.isEq && decide (o.i2-o.i1>n+n)
def iK(cur:ac Op):dj:=match cur with | []=>af | [o]=> !o.tag.isEq |_=>ag
def grps(n:Int)(cur:ac Op):ac Op->ac (ac Op)
 | []=>bif iK cur then [cur] else []
 |o::l=>bif bE n o then(cur++[o.hd n])::grps n [o.tl n] l else grps n (cur++[o]) l
theorem hU(n:Int)(cur:ac Op):grps n cur []=bif iK cur then [cur] else []:=rfl
theorem d4(n:Int)(cur:ac Op)(o:Op)(l:ac Op):grps n cur (o::l)=bif bE n o then(cur++[o.hd n])::grps n [o.tl n] l else grps n (cur++[o]) l:=rfl
def kH(n:Int):ac Op->ac Op
 | []=>[]
 |o::l=>(bif o.tag.isEq then o.tl n else o)::l
def gO(n:Int):ac Op->ac Op
 | []=>[]
 | [o]=>[bif o.tag.isEq then o.hd n else o]
 |o::l=>o::gO n l
def fW:ac Op->ac Op
 | []=>[⟨.eq,0,1,0,1⟩]
 |l=>l
def groups(n:Int)(l:ac Op):ac (ac Op):=grps n [] (gO n (kH n (fW l)))
def kL(s:Nat)(n:Int)(cd:Nat)(gr:Nat)(u1 u2 u3 u4 u5:ae V):Lo:=look [("self",aa (.ref s)),("n",aa (.int n)),("codes",aa (.ref cd)),("nn",aa (.int (n+n))),("group",aa (.ref gr)),("tag",u1),("i1",u2),("i2",u3),("j1",u4),("j2",u5)]
def kX(s:Nat)(n:Int)(cd gr:Nat)(o:Op):Lo:=kL s n cd gr (aa (.str o.tag.s)) (aa (.int o.i1)) (aa (.int o.i2)) (aa (.int o.j1)) (aa (.int o.j2))
theorem gtgt_i(q:R (kX s n cd gr o) H):aDo X o.v (kL s n cd gr u1 u2 u3 u4 u5) H R:=by
 refine kch (B:=(5=5/\R (upd (upd (upd (upd (upd (kL s n cd gr u1 u2 u3 u4 u5) "tag" (.str o.tag.s)) "i1" (.int o.i1)) "i2" (.int o.i2)) "j1" (.int o.j1)) "j2" (.int o.j2)) H)) ⋯ ⟨rfl,?_⟩
 delta kL
 rw[aD,aD,aD,aD,aD]
 exact q
theorem mQ(H:MH)(g:Tg):eqv H (.str g.s) (.str "equal")=aa g.isEq:=by cases g<;>kernel_rfl
theorem gfc_i(q:P (bE n o) H):g_fc X (kX s n cd gr o) H P:=by
 refine kch (B:=(Lp (aS id (.str o.tag.s) (.str "equal") H) λv H1=>Lf (tr v H1) λt=>bif t then(bif decide (o.i2-o.i1>n+n) then P ag H1 else P af H1) else P af H1)) ⋯
  (Lp.mk (by delta aS;rw[mQ];rfl) (Lf.mk rfl ?_))
 unfold bE at q
 cases e:o.tag.isEq with
 |false=>rw[e]at q;exact q
 |true=>
  rw[e,Bool.true_and]at q
  cases e2:decide (o.i2-o.i1>n+n) with
  |false=>rw[e2]at q;exact q
  |true=>rw[e2]at q;exact q
theorem gf1_i(h:H[gr]? =aa (.list vs))(hl:vs.length<1000000)(k:K .next (kX s n cd gr o) (H.set gr (.list (vs++[(o.hd n).v])))):g_f1 X (kX s n cd gr o) H K:=iV ⋯ (λH Q q=>kch (B:=(5<100/\Q (o.hd n).v H)) ⋯ ⟨by decide,q⟩) h hl k
theorem gf3_i(h:H[gr]? =aa (.list vs))(hl:vs.length<1000000)(k:K .next (kX s n cd gr o) (H.set gr (.list (vs++[o.v])))):g_f3 X (kX s n cd gr o) H K:=iV ⋯ (λH Q q=>kch (B:=(5<100/\Q o.v H)) ⋯ ⟨by decide,q⟩) h hl k
theorem gf2_i(k:K .next (kX s n cd H.length (o.tl n)) (H++[.list []])):g_f2 X (kX s n cd gr o) H K:=by
 refine kch (B:=(2<100/\2=2/\K .next (upd (upd (upd (kX s n cd gr o) "group" (.ref H.length)) "j1" (.int (max o.j1 (o.j2-n)))) "i1" (.int (max o.i1 (o.i2-n)))) (H++[.list []]))) ⋯ ⟨by decide,rfl,?_⟩
 unfold kX kL
 rw[aD,aD,aD]
 exact k
theorem aG1:yD X (kL s n cd gr u1 u2 u3 u4 u5) H P=(Lf (tr (.ref gr) H) λt=>bif t then Lp ((lst H (.ref gr)).bind λxs=>if xs.length<1000000 then aa (.int xs.length,H) else none) λm H1=>Lp (aS id m (.int 1) H1) λv H2=>Lf (tr v H2) λt=>bif t then (Lp (aO (.ref gr) (.int 0) H2) λv H3=>Lp (aO v (.int 0) H3) λv H4=>Lp (aS id v (.str "equal") H4) λv H5=>Lf (tr v H5) λt=>bif t then(bif !true then P ag H5 else P af H5) else(bif !false then P ag H5 else P af H5)) else(bif !false then P ag H2 else P af H2) else P af H):=by kernel_rfl
theorem gfc2_i(h:H[gr]? =aa (.list (cur.map Op.v)))(hl:cur.length<1000000)(q:P (iK cur) H):yD X (kL s n cd gr u1 u2 u3 u4 u5) H P:=by
 have hl':(cur.map Op.v).length<1000000:=by rw[ay];exact hl
 refine kch (aG1 X) (Lf.mk (qQ h hl') ?_)
 have len:((lst H (.ref gr)).bind λxs=>if xs.length<1000000 then aa (V.int xs.length,H) else none)=aa (.int (cur.map Op.v).length,H):=by
  exact rwL (aT h) (aw hl')
 match cur,h,len,q with
 | [],h,len,q=>exact q
 | [o],h,len,q=>
  refine aW (Lp.mk len (Lp.mk (v:=.bool ag) (H:=H) ⋯ (Lf.mk rfl (aW (Lp.mk (v:=o.v) (H:=H) ?_ (Lp.mk rfl (Lp.mk (v:=.bool o.tag.isEq) (H:=H) ?_ (Lf.mk rfl ?_))))))))
  ·show((lst H (.ref gr)).bind (at_ 0)).map _=_
   rw[aT h];rfl
  ·delta aS;rw[mQ];rfl
  ·have q:P (!o.tag.isEq) H:=q
   cases e:o.tag.isEq with
   |false=>rw[e]at q;exact q
   |true=>rw[e]at q;exact q
 |o::o2::l,h,len,q=>
  refine aW (Lp.mk len (Lp.mk (v:=.bool af) ?_ (Lf.mk rfl (aR (aW q)))))
  have e:(((o::o2::l).map Op.v).length:Int)≠1:=by rw[ay,cq,cq];exact A204
  delta aS
  rw[aHb,bc e];rfl
def Ex2(H H':MH)(i i':Nat):Prop:=∀ (j:Nat) (m:MO),i≠j->i'≠j->H[j]? =aa m->H'[j]? =aa m
theorem Ex2.trans{H1:MH}(h:Ex2 H H1 i i')(h':Ex2 H1 H2 i i'):Ex2 H H2 i i':=λj m n n' e=>h' j m n n' (h j m n n' e)
theorem Ex2.set:Ex2 H ((H.set i m).set i' m') i i':=λj x n n' e=>aJ (aJ e n) n'
theorem Ex2.set1:Ex2 H (H.set i m) i i':=λj x n n' e=>aJ e n
theorem iv_of{i:Nat}(h:H[i]? =aa (.itr (aa p))):H[i]?.bind MO.iv=aa p:=by rw[h];rfl
structure OutK(s:Nat)(n:Int)(cd it gr:Nat)(all:ac Op)(p0:Nat)(H:MH)(gs:ac (ac Op))(Q:kQ->MH->Prop):Prop where
 yl:∀ {H' o p g},Ex2 H H' it gr->H'[it]? =aa (.itr (aa (cd,p)))->H'[gr]? =aa (.list (g.map Op.v))->gs=g::grps n [o.tl n] (all.drop p)->p0<p->p<=all.length->(1<=p/\bE n o=ag/\all[p-1]? =aa o)->Q (.yl it (kX s n cd gr o) (.ref gr)) H'
 yr:∀ {H' lo g},Ex2 H H' it gr->H'[gr]? =aa (.list (g.map Op.v))->gs= [g]->(∃ m,H'[it]? =aa m)->Q (.yr lo (.ref gr)) H'
 dn:∀ {H'},Ex2 H H' it gr->gs= []->Q .done H'
theorem rJ{p0:Nat}(ci:it≠cd)(gi:it≠gr)(cg:gr≠cd):∀ (rest:ac Op){cur:ac Op}{p:Nat}{H:MH}{u1 u2 u3 u4 u5:ae V}, p0<=p->all.drop p=rest->H[cd]? =aa (.list (all.map Op.v))->H[it]? =aa (.itr (aa (cd,p)))->H[gr]? =aa (.list (cur.map Op.v))->cur.length+rest.length<=1000->OutK s n cd it gr all p0 H (grps n cur rest) Q-> (gfn X).loopN (rest.length+1) it (kL s n cd gr u1 u2 u3 u4 u5) H Q:=λl=>by
 induction l with
 |nil=>
  intro cur p H u1 u2 u3 u4 u5 h0 hd hc hi hg hl K
  refine Lf.mk (iv_of hi) (Lf.mk (aT hc) ?_)
  rw[eu (by rw[ay];exact mh.mp hd)]
  have hg':=aJ (m':=.itr none) hg gi
  refine gfc2_i X hg' (by exact A205 (rwR pu hl)) ?_
  cases e:iK cur with
  |false=>exact aR (K.dn .set1 (by rw[hU,e];rfl))
  |true=>exact aW (kch (B:=Q (.yr (kL s n cd gr u1 u2 u3 u4 u5) (.ref gr)) (H.set it (.itr none))) ⋯ (K.yr .set1 hg' (by rw[hU,e];rfl) ⟨_,aG hi _⟩))
 |cons o rest ih=>
  intro cur p H u1 u2 u3 u4 u5 h0 hd hc hi hg hl K
  have hp:all[p]? =aa o:=by rw[<-rk,hd];rfl
  have hd':all.drop (p+1)=rest:=by rw[<-vm,hd];rfl
  rw[cq]at hl
  have cl:(cur.map Op.v).length<1000000:=by rw[ay];exact A191 hl
  refine Lf.mk (iv_of hi) (Lf.mk (aT hc) ?_)
  rw[gp,hp]
  have hg':=aJ (m':=.itr (aa (cd,p+1))) hg gi
  have hi':=aG hi (.itr (aa (cd,p+1)))
  refine gtgt_i X (gfc_i X ?_)
  cases e:bE n o with
  |true=>
   refine aW (gf1_i X hg' cl (kch (B:=Q (.yl it (kX s n cd gr o) (.ref gr)) ((H.set it (.itr (aa (cd,p+1)))).set gr (.list (cur.map Op.v++[(o.hd n).v])))) ⋯ (K.yl (g:=cur++[o.hd n]) .set (aJ hi' gi.symm) (rwL cz (aG hg' _)) ?_ (Nat.lt_succ_of_le h0) ((List.getElem?_eq_some_iff.mp hp).1) ⟨xv _,e,hp⟩)))
   ·rw[d4,e,hd'];rfl
  |false=>
   refine aR (gf3_i X hg' cl (ih (cur:=cur++[o]) (je h0) hd' (aJ (aJ hc ci) cg) (aJ hi' gi.symm) (rwL cz (aG hg' _)) ?_ ?_))
   ·exact rwL am (rwL bo (A192 hl))
   ·have eg:grps n (cur++[o]) rest=grps n cur (o::rest):=by rw[d4,e];rfl
    exact rwL eg ⟨λe1=>K.yl (Ex2.set.trans e1),λe1=>K.yr (Ex2.set.trans e1),λe1=>K.dn (Ex2.set.trans e1)⟩
theorem uH{i:Nat}(h:H[i]? =aa (.gen g)):H[i]?.bind MO.gn=aa g:=by rw[h];rfl
theorem Ex2.hx(h:Ex2 H H' i i')(x:Hp G H)(hi:G i=none)(hi':G i'=none):Hp G H':=λj m e=>
 h j m (λz=>by rw[z,e]at hi;exact cyM hi) (λz=>by rw[z,e]at hi';exact cyM hi') (x j m e)
def kP(s:Nat)(n:Int)(cd nn gr u1 u2 u3 u4 u5:ae V):Lo:=look [("self",aa (.ref s)),("n",aa (.int n)),("codes",cd),("nn",nn),("group",gr),("tag",u1),("i1",u2),("i2",u3),("j1",u4),("j2",u5)]
theorem kP_0:loB ["self","n"] [.ref s,.int n] lo0=kP s n none none none none none none none none:=by
 rw[<-fK [("self",none),("n",none),("codes",none),("nn",none),("group",none),("tag",none),("i1",none),("i2",none),("j1",none),("j2",none)] ⋯]
 show upd (upd (look _) "self" (.ref s)) "n" (.int n)=_
 rw[aD,aD];kernel_rfl
def pT:AF:=cG 5 (asC (aN "tag") (asC (aN "i1") (asC (aN "i2") (asC (aN "j1") (asC (aN "j2") asN)))))
theorem gp_1(R:SF):aB (yC X) (aB (yB X) R) (kP s n none none none u1 u2 u3 u4 u5) H K=((∃ ff,H[s]? =aa (.inst ff))/\aU X [.ref s] H λv H1=>R (upd (kP s n none none none u1 u2 u3 u4 u5) "codes" v) H1 K):=by kernel_rfl
theorem gp_2(R:SF):aB (mP X) R (kP s n (aa (.ref cd)) none none u1 u2 u3 u4 u5) H K=(Lf (tr (.ref cd) H) λt=>bif !t then(5<100/\R (upd (kP s n (aa (.ref cd)) none none u1 u2 u3 u4 u5) "codes" (.ref H.length)) (H++[.list [Op.v ⟨.eq,0,1,0,1⟩]]) K) else R (kP s n (aa (.ref cd)) none none u1 u2 u3 u4 u5) H K):=by kernel_rfl
def pA(R:SF):SF:=aB (bX (bD (esC (eN "tag") (esC (aK wL (esC (eN "i1") (esC (aA b5 (eN "i2") (eN "n")) esN))) (esC (eN "i2") (esC (aK wL (esC (eN "j1") (esC (aA b5 (eN "j2") (eN "n")) esN))) (esC (eN "j2") esN)))))) (fY (eN "codes") (eK (.int 0)))) R
def pZ(R:SF):SF:=aB (bX (bD (esC (eN "tag") (esC (eN "i1") (esC (aK lJ (esC (eN "i2") (esC (aA aL (eN "i1") (eN "n")) esN))) (esC (eN "j1") (esC (aK lJ (esC (eN "j2") (esC (aA aL (eN "j1") (eN "n")) esN))) esN)))))) (fY (eN "codes") (gQ (eK (.int 1))))) R
theorem gp_3(R:SF):aB (mO X) R (kP s n (aa (.ref cd)) none none u1 u2 u3 u4 u5) H K=(Lp (aO (.ref cd) (.int 0) H) λv H1=>Lp (aO v (.int 0) H1) λw H2=>Lp (aS id w (.str "equal") H2) λe H3=>Lf (tr e H3) λt=> bif t then(Lp (aO (.ref cd) (.int 0) H3) λv H4=>pT v (kP s n (aa (.ref cd)) none none u1 u2 u3 u4 u5) H4 λlo1 H5=>pA (sK .next) lo1 H5 (bN R K)) else R (kP s n (aa (.ref cd)) none none u1 u2 u3 u4 u5) H3 K):=by kernel_rfl
theorem gp_4(R:SF):aB (mM X) R (kP s n (aa (.ref cd)) none none u1 u2 u3 u4 u5) H K=(Lp (aO (.ref cd) (.int (-1)) H) λv H1=>Lp (aO v (.int 0) H1) λw H2=>Lp (aS id w (.str "equal") H2) λe H3=>Lf (tr e H3) λt=> bif t then(Lp (aO (.ref cd) (.int (-1)) H3) λv H4=>pT v (kP s n (aa (.ref cd)) none none u1 u2 u3 u4 u5) H4 λlo1 H5=>pZ (sK .next) lo1 H5 (bN R K)) else R (kP s n (aa (.ref cd)) none none u1 u2 u3 u4 u5) H3 K):=by kernel_rfl
def kPX(s:Nat)(n:Int)(cd:Nat)(o:Op):Lo:=kP s n (aa (.ref cd)) none none (aa (.str o.tag.s)) (aa (.int o.i1)) (aa (.int o.i2)) (aa (.int o.j1)) (aa (.int o.j2))
theorem pT_i(q:R (kPX s n cd o) H):pT o.v (kP s n (aa (.ref cd)) none none u1 u2 u3 u4 u5) H R:=by
 refine kch (B:=(5=5/\R (upd (upd (upd (upd (upd (kP s n (aa (.ref cd)) none none u1 u2 u3 u4 u5) "tag" (.str o.tag.s)) "i1" (.int o.i1)) "i2" (.int o.i2)) "j1" (.int o.j1)) "j2" (.int o.j2)) H)) ⋯ ⟨rfl,?_⟩
 delta kP
 rw[aD,aD,aD,aD,aD]
 exact q
theorem pA_nf(R:SF):pA R (kPX s n cd o) H K=(5<100/\Lf (tU (.ref cd) (.int 0) (o.tl n).v H) λH'=>R (kPX s n cd o) H' K):=by kernel_rfl
theorem pZ_nf(R:SF):pZ R (kPX s n cd o) H K=(5<100/\Lf (tU (.ref cd) (.int (-1)) (o.hd n).v H) λH'=>R (kPX s n cd o) H' K):=by kernel_rfl
theorem gp_56:aB (rZ X) (aB (rY X) (sK .next)) (kP s n (aa (.ref cd)) none none u1 u2 u3 u4 u5) H K=K .next (upd (upd (kP s n (aa (.ref cd)) none none u1 u2 u3 u4 u5) "nn" (.int (n+n))) "group" (.ref H.length)) (H++[.list []]):=by kernel_rfl
theorem gp_56n:upd (upd (kP s n (aa (.ref cd)) none none u1 u2 u3 u4 u5) "nn" (.int (n+n))) "group" (.ref gr)=kL s n cd gr u1 u2 u3 u4 u5:=by
 unfold kP kL
 rw[aD,aD];kernel_rfl
theorem aBm(n:Nat):iu (-1) (n+1)=aa n:=by
 unfold iu
 rw[aw (by decide:(-1:Int)<0)]
 exact rwL A211 (aw (by rw[ao (cj n),ao (A212:(n:Int)<((n+1:Nat):Int))];rfl))
theorem seq_0(n:Nat):iu 0 (n+1)=aa 0:=cP (Int.le_refl 0) A213
theorem hO(h:H[cd]? =aa (.list vs))(b: -1000000<i/\i<1000000)(e:iu i vs.length=aa j)(hv:vs[j]? =aa v):aO (.ref cd) (.int i) H=aa (v,H):=by
 show((lst H (.ref cd)).bind (at_ i)).map _=_
 rw[aT h]
 show(at_ i vs).map _=_
 delta at_
 rw[aw b,e]
 show(vs[j]?).map _=_
 rw[hv];rfl
theorem qW(h:H[cd]? =aa (.list vs))(b: -1000000<i/\i<1000000)(e:iu i vs.length=aa j):tU (.ref cd) (.int i) v H=aa (H.set cd (.list (vs.set j v))):=by
 show H[cd]?.bind (setO H cd i v)=_
 rw[h]
 show(if-1000000<i/\i<1000000 then(iu i vs.length).map λj=>H.set cd (.list (vs.set j v)) else none)=_
 rw[aw b,e];rfl
theorem qS{o:Op}(q:Q (.str o.tag.s) H):Lp (aO o.v (.int 0) H) Q:=Lp.mk rfl q
theorem mL{g:Tg}{Q:dj->MH->Prop}(q:Q g.isEq H):Lp (aS id (.str g.s) (.str "equal") H) λe H3=>Lf (tr e H3) λt=>Q t H3:=Lp.mk (by delta aS;rw[mQ];rfl) (Lf.mk rfl q)
theorem lG(l:ac Op):kH n (o::l)=(bif o.tag.isEq then o.tl n else o)::l:=rfl
theorem gp3_i(h:H[cd]? =aa (.list ((o::l).map Op.v)))(k:∀ {H' u1 u2 u3 u4 u5},Ex H H' cd->H'[cd]? =aa (.list ((kH n (o::l)).map Op.v))->R (kP s n (aa (.ref cd)) none none u1 u2 u3 u4 u5) H' K):aB (mO X) R (kP s n (aa (.ref cd)) none none u1 u2 u3 u4 u5) H K:=by
 have b0: -1000000<(0:Int)/\(0:Int)<1000000:=by decide
 have ix:=seq_0 (l.map Op.v).length
 refine kch (gp_3 X R) (Lp.mk (hO h b0 ix rfl) (qS (mL ?_)))
 rw[lG]at k
 cases e:o.tag.isEq with
 |false=>rw[e]at k;exact aR (k (λ_ _ _ q=>q) h)
 |true=>
  rw[e]at k
  exact aW (Lp.mk (hO h b0 ix rfl) (pT_i (kch (pA_nf (sK .next)) ⟨by decide,Lf.mk (qW h b0 ix) (k .set (aG h _))⟩)))
theorem jE:∀ l:ac Op,gO n (l++[o])=l++[bif o.tag.isEq then o.hd n else o]
 | []=>rfl
 | [x]=>rfl
 |x::y::l=>by
  show x::gO n (y::l++[o])=_
  rw[jE (y::l)];rfl
theorem gp4_i(h:H[cd]? =aa (.list ((l++[o]).map Op.v)))(k:∀ {H' u1 u2 u3 u4 u5},Ex H H' cd->H'[cd]? =aa (.list ((gO n (l++[o])).map Op.v))->R (kP s n (aa (.ref cd)) none none u1 u2 u3 u4 u5) H' K):aB (mM X) R (kP s n (aa (.ref cd)) none none u1 u2 u3 u4 u5) H K:=by
 have b0: -1000000<(-1:Int)/\(-1:Int)<1000000:=by decide
 rw[cz]at h
 have ix:iu (-1) (l.map Op.v++[o].map Op.v).length=aa (l.map Op.v).length:=by exact rwL am (aBm _)
 have e1:=hO h b0 ix (by rw[dg (ce _),qe];rfl)
 refine kch (gp_4 X R) (Lp.mk e1 (qS (mL ?_)))
 rw[jE]at k
 cases e:o.tag.isEq with
 |false=>rw[e,cz]at k;exact aR (k (λ_ _ _ q=>q) h)
 |true=>
  rw[e,cz]at k
  refine aW (Lp.mk e1 (pT_i (kch (pZ_nf (sK .next)) ⟨by decide,Lf.mk (qW h b0 ix) (k .set ?_)⟩)))
  have:=aG h (.list ((l.map Op.v++[o].map Op.v).set (l.map Op.v).length (o.hd n).v))
  rw[List.set_append_right _ _ (ce _),qe]at this ⊢
  exact this
theorem gp2_i(h:H[cd]? =aa (.list (l.map Op.v)))(hl:l.length<1000000)(k:∀ {H' cd'},Hx H H'->H'[cd']? =aa (.list ((fW l).map Op.v))->(l≠ []/\cd'=cd)\/(l= []/\cd'=H.length)->R (kP s n (aa (.ref cd')) none none u1 u2 u3 u4 u5) H' K):aB (mP X) R (kP s n (aa (.ref cd)) none none u1 u2 u3 u4 u5) H K:=by
 refine kch (gp_2 X R) (Lf.mk (qQ h (by rw[ay];exact hl)) ?_)
 cases l with
 |nil=>
  refine aW ⟨by decide,?_⟩
  unfold kP at k ⊢
  rw[aD]
  exact k (.app _ _) (bC _ _) (.inr ⟨rfl,rfl⟩)
 |cons o l=>exact aR (k (.refl _) h (.inl ⟨nofun,rfl⟩))
theorem l5(l:ac Op):∃ o l',fW l=o::l':=by
 cases l with
 |nil=>exact⟨_,_,rfl⟩
 |cons o l=>exact⟨o,l,rfl⟩
theorem wJ(l:ac Op):(fW l).length<=l.length+1:=by
 cases l with
 |nil=>exact ce 1
 |cons o l=>exact lw _
theorem aDt(n:Int)(l:ac Op):∃ L o,kH n (fW l)=L++[o]:=by
 refine xEE (l5 l) λo l' e=>?_
 rw[e,lG]
 rcases List.eq_nil_or_concat ((bif o.tag.isEq then o.tl n else o)::l') with h |⟨L,x,h⟩
 ·cases h
 ·exact⟨L,x,by rw[h,List.concat_eq_append]⟩
theorem gp34_i(h:H[cd]? =aa (.list ((fW l).map Op.v)))(k:∀ {H' u1 u2 u3 u4 u5},Ex H H' cd->H'[cd]? =aa (.list ((gO n (kH n (fW l))).map Op.v))->K .next (kL s n cd H'.length u1 u2 u3 u4 u5) (H'++[.list []])):gR3 X (kP s n (aa (.ref cd)) none none u1 u2 u3 u4 u5) H K:=by
 refine xEE (l5 l) λo l' e=>xEE (aDt n l) λL x e2=>gp3_i X (rwR e h) λ{H1 u1 u2 u3 u4 u5} x1 h1=>?_
 rw[<-e,e2]at h1
 exact gp4_i X h1 λ{H2 u1 u2 u3 u4 u5} x2 h2=>kch (gp_56 X) (rwL gp_56n (k (x1.trans x2) (rwL e2 h2)))
theorem uN(n:Int)(l:ac Op):(kH n l).length=l.length:=by cases l<;>rfl
theorem nN(n:Int):∀ l:ac Op,(gO n l).length=l.length
 | []=>rfl
 | [x]=>rfl
 |x::y::l=>by
  show(x::gO n (y::l)).length=_
  rw[cq,nN n (y::l)];rfl
def aV(n:Int):ac Op->ac Op
 | []=>[]
 |o::l=>gO n (kH n (o::l))
theorem d5(n:Int):∀ l:ac Op,(aV n l).length=l.length
 | []=>rfl
 |o::l=>by
  show(gO n (kH n (o::l))).length=_
  rw[nN,uN]
theorem Hx.no{r:Nat}(x:Hx B H)(h:H[r]? =none):B[r]? =none:=by
 cases c:B[r]? with
 |none=>rfl
 |some m=>exact aE (h.symm.trans (x _ _ c))
class inductive Its(K:ItK C)(B:MH):K.σ->ac V->Prop
 |nil {it:K.σ} (h:∀ {H:MH}{P:ae (V×K.σ)->MH->Prop},Hx B H->P none H->K.nx it H P):Its K B it []
 |cons {it it':K.σ}{v:V}{vs:ac V} (h:∀ {H:MH}{P:ae (V×K.σ)->MH->Prop},Hx B H->P (aa (v,it')) H->K.nx it H P) (t:Its K B it' vs):Its K B it (v::vs)
theorem uA(hl:lst B (.ref r)=aa vs):∀ (rest:ac V) (p:Nat),vs.drop p=rest->Its (cC C) B (r,p) rest:=λn=>by
 induction n with
 |nil=>
  intro p hd
  exact .nil λ{H P} hx q=>Lf.mk (by
    show(lst H (.ref r)).map _=_
    rw[hx.lst hl,qt,eu (mh.mp hd)];rfl) q
 |cons v rest ih=>
  intro p hd
  exact .cons (λ{H P} hx q=>Lf.mk (by
     show(lst H (.ref r)).map _=_
     rw[hx.lst hl,qt,show vs[p]? =aa v from by rw[<-rk,hd];rfl];rfl) q)
    (ih (p+1) (by rw[<-vm,hd];rfl))
theorem rQ:∀ (n:Nat) (x:Int),Its (mF C) B (x,n,1) (lQ x 1 n)
 |0,x=>.nil λhx q=>q
 |n+1,x=>.cons (λhx q=>q) (rQ n (x+1))
structure Put(I:Lo->Prop)(B:MH)(ai:Nat)(out:ac V)(F:Lo->MH->LK->Prop):Prop where
 p:∀ {lo:Lo}{H:MH}{acc:ac V}{P:LK},I lo->Hx B H->H[ai]? =aa (.list acc)->acc.length+out.length<1000000->
 (∀ {lo' H'},I lo'->Hx B H'->H'[ai]? =aa (.list (acc++out))->P lo' H')->F lo H P
def lL(tgt:AF)(t:TF)(bf:Lo->MH->LK->Prop)(v:V):Lo->MH->LK->Prop:=λlo H P=>tgt v lo H λlo1 H1=>t lo1 H1 λb H2=>bif b then bf lo1 H2 P else P lo1 H2
theorem tJ{α:Type}{K:ItK C}{bf:BF}(f:α->V)(out:α->ac V)(I:Lo->Prop):∀ (l:ac α){it:K.σ},Its K B it (l.map f)->(∀ x∈l,Put I B ai (out x) (lL tgt t (bf ai) (f x)))-> ∀ {lo:Lo}{H:MH}{acc:ac V}{P:LK},I lo->Hx B H->H[ai]? =aa (.list acc)->acc.length+(l.flatMap out).length<1000000->(∀ {lo' H'},I lo'->Hx B H'->H'[ai]? =aa (.list (acc++l.flatMap out))->P lo' H')->pI K tgt t (bf ai) (l.length+1) it lo H P:=λn=>by
 induction n with
 |nil=>
  intro it hi hs lo H acc P i hx ha hl k
  cases hi with
  |nil h=>exact h hx (k i hx (by rw[List.flatMap_nil,cw];exact ha))
 |cons x l ih=>
  intro it hi hs lo H acc P i hx ha hl k
  cases hi with
  |cons h ht=>
   rw[lz,am]at hl
   refine h hx ((hs x jq).p i hx ha (A248 hl) λ{lo' H'} i' hx' ha'=>(ih ht (λy hy=>hs y (gh _ hy)) i' hx' ha' (by exact rwL am (A249 hl)) λ{lo2 H2} i2 hx2 ha2=>k i2 hx2 ?_))
   rw[lz,<-dz];exact ha2
theorem aHe{α:Type}{K:ItK C}{bf:BF}{Q:EK}{it:K.σ}(f:α->V)(out:α->ac V)(I:Lo->Prop)(l:ac α)(hi:Its K H it (l.map f))(i0:I (hide hid lo))(hl:(l.flatMap out).length<1000000)(hs:∀ x∈l,Put I H H.length (out x) (lL tgt t (bf H.length) (f x)))(k:∀ {H'},Hx H H'->H'[H.length]? =aa (.list (l.flatMap out))->Q (.ref H.length) H'):∃ n,pI K tgt t (bf H.length) n it (hide hid lo) (H++[.list []]) λ_ H2=>Q (.ref H.length) H2:=⟨_,tJ f out I l hi hs i0 (.app _ _) (bC _ _) (by rw[pu,Nat.zero_add];exact hl) λ_ hx ha=>k hx ha⟩
theorem u7{α:Type}{K:ItK C}{fi:IF K}{it:K.σ}(f:α->V)(out:α->ac V)(I:Lo->Prop)(l:ac α)(hf:∀ {P:K.σ->MH->Prop},P it H->fi lo H P)(hi:Its K H it (l.map f))(i0:I (hide hid lo))(hl:(l.flatMap out).length<1000000)(hs:∀ x∈l,Put I H H.length (out x) (lL tgt t (bf H.length) (f x)))(k:∀ {H'},Hx H H'->H'[H.length]? =aa (.list (l.flatMap out))->Q (.ref H.length) H'):eX K hid fi tgt t bf lo H Q:=hf (aHe f out I l hi i0 hl hs k)
theorem iL_i(hf:∀ {Q:EK},Q (.ref r) H->f lo H Q)(hl:lst H (.ref r)=aa vs)(q:P (r,0) H):iL f lo H P:=hf (Lf.mk rfl ⟨⟨_,hl⟩,q⟩)
theorem lI{α:Type}(f:α->V)(out:α->ac V)(I:Lo->Prop)(l:ac α)(hn:lo x=aa (.ref r))(h:lst H (.ref r)=aa (l.map f))(i0:I (hide hid lo))(hl:(l.flatMap out).length<1000000)(hs:∀ x∈l,Put I H H.length (out x) (lL tgt t (bf H.length) (f x)))(k:∀ {H'},Hx H H'->H'[H.length]? =aa (.list (l.flatMap out))->Q (.ref H.length) H'):eX (cC C) hid (iL (eN x)) tgt t bf lo H Q:=u7 f out I l (iL_i (λq=>aY hn q) h) (uA h _ 0 rfl) i0 hl hs k
theorem put1{I:Lo->Prop}{P:LK}(hb:B[ai]? =none)(hx:Hx B H)(ha:H[ai]? =aa (.list acc))(hl:acc.length+out.length<1000000)(e:out= [v])(i:I lo)(k:∀ {lo' H'},I lo'->Hx B H'->H'[ai]? =aa (.list (acc++out))->P lo' H'):Lf (H[ai]?.bind MO.own) λvs=>vs.length<1000000/\P lo (H.set ai (.list (vs++[v]))):=Lf.mk (gN ha) ⟨du (ly _ _) hl,k i (hx.set hb) (by exact rwL e (aG ha _))⟩
theorem put0{ai:Nat}{I:Lo->Prop}{P:LK}(hx:Hx B H)(ha:H[ai]? =aa (.list acc))(e:out= [])(i:I lo)(k:∀ {lo' H'},I lo'->Hx B H'->H'[ai]? =aa (.list (acc++out))->P lo' H'):P lo H:=k i hx (by rw[e,cw];exact ha)
theorem tC(h:PyData.canLayAll0 xs=ag)(d:(PyData.list xs).depth<=64):PySem.SeqAt.shaped (.list xs)=ag:=by
 unfold PySem.SeqAt.shaped
 rw[ao d,Bool.and_true];exact h
theorem aD9(h1:rd H eqD x=aa d)(h2:rd H eqD y=aa d)(s:PySem.SeqAt.shaped d=ag):eqv H x y=aa ag:=by
 delta eqv
 rw[h1,h2]
 show(if (PySem.SeqAt.shaped d && PySem.SeqAt.shaped d)=ag then aa (PyData.eqv d d) else none)=aa ag
 exact rwL s (bg aa (PySem.SeqAt.eqv_refl d ((bx.mp s).1)))
theorem rdMs{α:Type}(f:α->V)(d:α->kx):∀ l:ac α,(∀ x∈l,rd H n (f x)=aa (d x))->(l.map f).mapM (rd H n)=aa (l.map d):=λn=>by
 induction n with
 |nil=>
  exact λ_=>rfl
 |cons x l ih=>
  intro h
  rw[jf,vg,h x jq,ih λy hy=>h y (gh _ hy)];rfl
theorem mJ{α:Type}(f:α->V)(d:α->kx){l:ac α}(hl:lst H (.ref r)=aa (l.map f))(h:∀ x∈l,rd H n (f x)=aa (d x)):rd H (n+1) (.ref r)=aa (.list (l.map d)):=by
 show(lst H (.ref r)).bind (λvs=>(vs.mapM (rd H n)).map PyData.list)=_
 rw[hl]
 show((l.map f).mapM (rd H n)).map PyData.list=_
 rw[rdMs f d l h];rfl
theorem aBy{α:Type}(d:α->kx):∀ l:ac α,(∀ x∈l,(d x).canLay0=ag/\(d x).depth<=m)->PyData.canLayAll0 (l.map d)=ag/\PyData.depthAll (l.map d)<=m:=λn=>by
 induction n with
 |nil=>
  exact λ_=>⟨rfl,gw _⟩
 |cons x l ih=>
  intro h
  have h1:=h x jq
  have h2:=ih λy hy=>h y (gh _ hy)
  refine⟨?_,Nat.max_le.mpr ⟨h1.2,h2.2⟩⟩
  show((d x).canLay0 && PyData.canLayAll0 (l.map d))=ag
  rw[h1.1,h2.1];rfl
theorem pW{α:Type}{d:α->kx}{l:ac α}(h:∀ x∈l,(d x).canLay0=ag/\(d x).depth<=9):PySem.SeqAt.shaped (.list (l.map d))=ag:=tC (aBy d l h).1 (Nat.succ_le_of_lt (du (aBy d l h).2 (by decide)))
theorem jF{α:Type}(f:α->V)(d:α->kx){l:ac α}(h1:lst H (.ref r)=aa (l.map f))(h2:lst H (.ref r')=aa (l.map f))(hd:∀ x∈l,rd H 7 (f x)=aa (d x))(hs:∀ x∈l,(d x).canLay0=ag/\(d x).depth<=9):eqv H (.ref r) (.ref r')=aa ag:=aD9 (mJ f d h1 hd) (mJ f d h2 hd) (pW hs)
theorem aAe{α:Type}(f:α->V)(d:α->kx){l:ac α}(h1:lst H (.ref r)=aa (l.map f))(h2:lst H (.ref r')=aa [])(hd:∀ x∈l,rd H 7 (f x)=aa (d x))(hs:∀ x∈l,(d x).canLay0=ag/\(d x).depth<=9):eqv H (.ref r) (.ref r')=aa l.isEmpty:=by
 delta eqv
 have e1:rd H eqD (.ref r)=_:=mJ f d h1 hd
 have e2:rd H eqD (.ref r')=_:=mJ (l:=[]) f d h2 (λ_ h=>ba h List.not_mem_nil)
 rw[e1,e2]
 show(if (PySem.SeqAt.shaped (.list (l.map d)) && PySem.SeqAt.shaped (.list []))=ag then aa (PyData.eqv (.list (l.map d)) (.list [])) else none)=_
 refine rwL (pW hs) ?_
 cases l<;>rfl
def dO(o:Op):kx:=.tuple [.str o.tag.s,.int o.i1,.int o.i2,.int o.j1,.int o.j2]
theorem qI(o:Op):rd H 7 o.v=aa (dO o):=rfl
theorem qJ(o:Op):(dO o).canLay0=ag/\(dO o).depth<=9:=⟨by
 obtain⟨t,_,_,_,_⟩:=o
 cases t<;>kernel_rfl,(by decide:1<=9)⟩
def pk{α:Type}(vs:ac α)(lo hi st:ae Int):ac α:=(sliceRange (qi lo hi st vs.length).1 (qi lo hi st vs.length).2.1 (qi lo hi st vs.length).2.2).filterMap (vs[·]?)
theorem pk_V(vs:ac V)(lo hi st:ae Int):xC vs lo hi st=pk vs lo hi st:=rfl
theorem vS(g:α->β)(vs:ac α)(lo hi st:ae Int):pk (vs.map g) lo hi st=(pk vs lo hi st).map g:=by
 delta pk
 rw[ay,List.map_filterMap]
 congr 1
 funext i
 exact gp
theorem aBw(vs:ac α)(lo hi st:ae Int):(pk vs lo hi st).length<=vs.length:=by
 have h:=slicePick_size_le (vs.map λ_=>Value.none).toArray lo hi st
 have e:(slicePick (vs.map λ_=>Value.none).toArray lo hi st).size=(pk (vs.map λ_=>Value.none) lo hi st).length:=by
  exact rwL tz (rwL tz (bg (λg=>(List.filterMap g _).length) (funext λi=>List.getElem?_toArray)))
 rw[e,vS,ay]at h
 exact Nat.le_trans h (by rw[tz,ay];exact ce _)
theorem pk_mem{lo st:ae Int}{x:α}(h:x∈pk vs lo hi st):x∈vs:=by
 exact xEA (List.mem_filterMap.mp h) λi _ hi=>dc hi
theorem aBv(vs:ac α)(lo hi:ae Int):pk vs lo hi none=(vs.drop (lo.elim 0 (wv vs.length))).take (hi.elim vs.length (wv vs.length)-lo.elim 0 (wv vs.length)):=by
 delta pk
 rw[sliceBounds_plain]
 rw[<-(funext λi=>List.getElem?_toArray)]
 rw[sliceRange_one,pick_run]
theorem yX{n:Nat}{x:Int}(h0:0<=x)(h1:x<=n):wv n x=x.toNat:=by
 refine xE (Int.eq_ofNat_of_zero_le h0) λm z194=>?_;subst z194
 rw[clipAt_nat,Nat.min_eq_left (qc.mp h1),ii]
theorem slc_i{lo st:ae Int}(h:lst H (.ref r)=aa vs)(hl:vs.length<1000000)(hst:st≠aa 0)(q:Q (.ref H.length) (H++[.list (pk vs lo hi st)])):Lp (slc (.ref r) lo hi st H) Q:=by
 refine Lp.mk ?_ q
 show(lst H (.ref r)).bind _=_
 rw[h]
 show(if vs.length<1000000/\st≠aa 0 then mkL (xC vs lo hi st) H else none)=_
 rw[aw ⟨hl,hst⟩,pk_V]
 exact aw (du (aBw ..) hl)
theorem xB(h:lst H (.ref r)=aa vs)(h':lst H (.ref r')=aa ws)(hl:vs.length+ws.length<1000000)(q:Q (.ref H.length) (H++[.list (vs++ws)])):Lp (aL (.ref r) (.ref r') H) Q:=by
 refine Lp.mk ?_ q
 show(lst H (.ref r)).bind (λxs=>(lst H (.ref r')).bind λys=>mkL (xs++ys) H)=_
 exact rwL h (rwL h' (aw (by exact rwL am hl)))
theorem q6(h:H[r]? =aa (.list vs))(h':H[r']? =aa (.list ws))(hl:vs.length+ws.length<1000000)(q:Q (.ref H.length) (H++[.list (vs++ws)])):Lp (aL (.ref r) (.ref r') H) Q:=xB (aT h) (aT h') hl q
theorem uC:∀ l:ac Int,lS (l.map V.int)=aa l
 | []=>rfl
 |x::l=>by
  have:=uC l
  unfold lS at this ⊢
  rw[jf,vg,this];rfl
theorem sum_i{l:ac Int}(h:lst H (.ref r)=aa (l.map V.int))(q:Q (.int l.sum) H):cSum [.ref r] H Q:=by
 refine Lp.mk ?_ q
 show(lst H (.ref r)).bind (λxs=>(lS xs).map λis=>(V.int is.sum,H))=_
 rw[h]
 show(lS (l.map V.int)).map _=_
 rw[uC];rfl
theorem lenM_i(h:lst H (.ref r)=aa vs)(hl:vs.length<1000000)(q:Q (.int vs.length) H):cM [.ref r] H Q:=by
 refine Lp.mk ?_ q
 show(lst H (.ref r)).bind _=_
 exact rwL h (aw hl)
theorem Yb182{a b:Int}:a<=b->min a b=a:=zzI 0x444aa8a680c3a68087 [a,b]
theorem Yb183{a b:Int}:0<=a->b<=c/\d<=e->max b (c-a)<=c/\max d (e-a)<=e:=zzI 0x42910a2b28b01ac20aaa2a06908216cac2aa90851e803d087 [a,b,c,d,e]
theorem Yb184{a b:Int}:0<=a->0<=b->(0:Int)<=min a b:=zzI 0x452a680c0f42a40f421e803d087 [a,b]
theorem Yb185{a b:Int}:min a (max b (a-c)+c)=a:=zzI 0x4444444aa8aaaa01a420280c3 [a,b,c]
theorem Yb186{a b:Int}:min (min a (b+c)) (b+d)=min a (b+min d c):=zzI 0x1041422410508542241049449115510a444a10a0828454105445488aaac3a40a03ae902aa40a030c3 [a,b,c,d]
theorem Yb187{a b:Int}:max (max a (b-c)) (b-d)=max a (b-min d c):=zzI 0x104115422488aa8892215441042a10411284548892512841042a1042aac3a41a02ae906aa41a02083 [a,b,c,d]
theorem tl_tl(o:Op)(m n:Int):(o.tl m).tl n=o.tl (min n m):=by
 show Op.mk o.tag (max (max o.i1 (o.i2-m)) (o.i2-n)) o.i2 (max (max o.j1 (o.j2-m)) (o.j2-n)) o.j2=Op.mk o.tag (max o.i1 (o.i2-min n m)) o.i2 (max o.j1 (o.j2-min n m)) o.j2
 congr 1
 ·exact Yb187
 ·exact Yb187
theorem hd_hd(o:Op)(m n:Int):(o.hd m).hd n=o.hd (min n m):=by
 show Op.mk o.tag o.i1 (min (min o.i2 (o.i1+m)) (o.i1+n)) o.j1 (min (min o.j2 (o.j1+m)) (o.j1+n))=Op.mk o.tag o.i1 (min o.i2 (o.i1+min n m)) o.j1 (min o.j2 (o.j1+min n m))
 congr 1
 ·exact Yb186
 ·exact Yb186
theorem hd_tl(o:Op)(m0:0<=m)(h:o.i1<=o.i2)(h':o.j1<=o.j2):(o.tl m).hd m=o.tl m:=by
 show Op.mk o.tag (max o.i1 (o.i2-m)) (min o.i2 (max o.i1 (o.i2-m)+m)) (max o.j1 (o.j2-m)) (min o.j2 (max o.j1 (o.j2-m)+m))=Op.mk o.tag (max o.i1 (o.i2-m)) o.i2 (max o.j1 (o.j2-m)) o.j2
 congr 1
 ·exact Yb185
 ·exact Yb185
def tlE(n:Int)(o:Op):Op:=bif o.tag.isEq then o.tl n else o
def hdE(n:Int)(o:Op):Op:=bif o.tag.isEq then o.hd n else o
theorem j8(n:Int)(o:Op):(tlE n o).tag=o.tag:=by delta tlE;cases o.tag.isEq<;>rfl
theorem lT(n:Int)(o:Op):(hdE n o).tag=o.tag:=by delta hdE;cases o.tag.isEq<;>rfl
theorem aA3(o:Op)(m n:Int):tlE n (tlE m o)=tlE (min n m) o:=by
 cases e:o.tag.isEq with
 |false=>delta tlE;rw[e,fk,fk,e];rfl
 |true=>
  have:tlE m o=o.tl m:=by delta tlE;rw[e];rfl
  rw[this]
  delta tlE
  rw[show (o.tl m).tag.isEq=ag from e,e,dy,dy,tl_tl]
theorem hdE_2(o:Op)(m n:Int):hdE n (hdE m o)=hdE (min n m) o:=by
 cases e:o.tag.isEq with
 |false=>delta hdE;rw[e,fk,fk,e];rfl
 |true=>
  have:hdE m o=o.hd m:=by delta hdE;rw[e];rfl
  rw[this]
  delta hdE
  rw[show (o.hd m).tag.isEq=ag from e,e,dy,dy,hd_hd]
theorem v7(o:Op)(m0:0<=m)(h:o.i1<=o.i2)(h':o.j1<=o.j2):hdE m (tlE m o)=tlE m o:=by
 cases e:o.tag.isEq with
 |false=>delta hdE;rw[j8,e];rfl
 |true=>
  have:tlE m o=o.tl m:=by delta tlE;rw[e];rfl
  rw[this]
  delta hdE
  rw[show (o.tl m).tag.isEq=ag from e,dy,hd_tl o m0 h h']
theorem i7(n:Int)(o:Op):aV n [o]= [hdE n (tlE n o)]:=rfl
theorem gP(n:Int)(o:Op)(L:ac Op)(z:Op):aV n (o::(L++[z]))=tlE n o::(L++[hdE n z]):=by
 show gO n ((tlE n o::L)++[z])=_
 rw[jE];rfl
theorem wA(n0:0<=n)(m0:0<=m)(hs:∀ o,l= [o]->o.i1<=o.i2/\o.j1<=o.j2):aV n (aV m l)=aV (min n m) l:=by
 cases l with
 |nil=>rfl
 |cons o l=>
  rcases List.eq_nil_or_concat l with rfl |⟨L,z,rfl⟩
  ·have v:=hs o rfl
   rw[i7,i7,i7,v7 o m0 v.1 v.2,aA3,v7 o (show 0<=min n m by exact Yb184 n0 m0) v.1 v.2]
   have v2:(tlE m o).i1<=(tlE m o).i2/\(tlE m o).j1<=(tlE m o).j2:=by
    delta tlE
    cases o.tag.isEq with
    |false=>exact v
    |true=>
     exact(Yb183 m0 v:max o.i1 (o.i2-m)<=o.i2/\max o.j1 (o.j2-m)<=o.j2)
   have:=v7 (tlE m o) n0 v2.1 v2.2
   rw[aA3]at this
   rw[this]
  ·rw[List.concat_eq_append,gP,gP,gP,aA3,hdE_2]
theorem iZ(h:l≠ []):groups n l=grps n [] (aV n l):=by
 cases l with
 |nil=>exact ba rfl h
 |cons o l=>rfl
theorem nJ(n0:0<=n)(nm:n<=m)(hs:∀ o,l= [o]->o.i1<=o.i2/\o.j1<=o.j2):groups n (aV m l)=groups n l:=by
 cases l with
 |nil=>rfl
 |cons o l=>
  have:aV m (o::l)≠ []:=λe=>by
   have:=bg List.length e
   rw[d5]at this
   cases this
  rw[iZ this,iZ (gj _ _),wA n0 (bw n0 nm) hs,show min n m=n by exact Yb182 nm]
def Ke(H H':MH)(gi it:Nat):Prop:=∀ (r:Nat) (m:MO),r≠gi->r≠it->H[r]? =aa m->H'[r]? =aa m
inductive GnT(n:Int)(H:MH)(gi it cd:Nat)(all:ac Op):ac (ac Op)->Prop
 |loop {s gr p:Nat}{o:Op} (g:H[gi]? =aa (.gen (.loop it (kX s n cd gr o)))) (c:H[cd]? =aa (.list (all.map Op.v))) (i:H[it]? =aa (.itr (aa (cd,p)))) (pl:p<=all.length) (al:all.length<=900) (hb:1<=p/\bE n o=ag/\all[p-1]? =aa o):GnT n H gi it cd all (grps n [o.tl n] (all.drop p))
 |last {lo:Lo} (g:H[gi]? =aa (.gen (.last lo))):GnT n H gi it cd all []
theorem aDn(G:GnT n H gi it cd all gs)(ic:it≠cd)(ig:it≠gi)(gc:gi≠cd)(k0:∀ {H'},gs= []->Ke H H' gi it->H'[gi]? =aa (.gen .fin)->Q none H')(k1:∀ {H' r g gs'},gs=g::gs'->Ke H H' gi it->H'[r]? =aa (.list (g.map Op.v))->H[r]? =none->GnT n H' gi it cd all gs'->(∃ m,H'[it]? =aa m)->Q (aa (.ref r)) H'):(gfn X).nx gi H Q:=by
 cases G with
 |last g=>exact Lf.mk (uH g) (k0 rfl (λr m q _ e=>aJ e q.symm) (aG g _))
 | @loop s gr p o g c i pl al _=>
  refine Lf.mk (uH g) (gf2_i X ?_)
  have rn:=aG g (.gen .run)
  have keep:∀ (r:Nat) (m:MO),gi≠r->H[r]? =aa m->(H.set gi (.gen .run))[r]? =aa m:=λr m q e=>aJ e q
  have c1:=keep _ _ gc c
  have i1:=keep _ _ ig.symm i
  have fr:H[(H.set gi (MO.gen .run)).length]? =none:=eu (by exact rwL jj (ce _))
  revert rn c1 i1 keep fr
  generalize H.set gi (.gen .run)=H1
  intro rn keep c1 i1 fr
  have k3:∀ (r:Nat) (m:MO),H1[r]? =aa m->((H1++[MO.list []]).set H1.length (.list ([]++[(o.tl n).v])))[r]? =aa m:=λr m e=>aJ (Hx.app _ _ _ _ e) (cI e)
  have ki:∀ {H':MH},Ex2 ((H1++[MO.list []]).set H1.length (.list ([]++[(o.tl n).v]))) H' it H1.length->∀ (r:Nat) (m:MO),it≠r->H1[r]? =aa m->H'[r]? =aa m:=λe r m q h=>e _ _ q (cI h) (k3 _ _ h)
  have kk:∀ {H':MH}{m:MO},Ex2 ((H1++[MO.list []]).set H1.length (.list ([]++[(o.tl n).v]))) H' it H1.length->Ke H (H'.set gi m) gi it:=λe r m q1 q2 h=>aJ (ki e r m q2.symm (keep r m q1.symm h)) q1.symm
  refine gf3_i X (bC _ _) (by decide) ⟨_,rJ X ic (cI i1).symm (cI c1) (all.drop p) (cur:=[o.tl n]) (ce _) rfl (k3 _ _ c1) (k3 _ _ i1) (aG (bC _ _) _) (rwL jg (rwL bo (A206 al))) ?_⟩
  ·refine⟨λ{H' o' p' g} e hi hg et h0 hpl hb=>⟨(ki e _ _ ig rn),k1 et (kk e) (aJ hg (cI rn).symm) fr (.loop (aG (ki e _ _ ig rn) _) (aJ (ki e _ _ ic c1) gc) (aJ hi ig.symm) hpl al hb) ⟨_,aJ hi ig.symm⟩⟩,λ{H' lo g} e hg et hm=>?_,λ{H'} e et=>?_⟩
   ·exact⟨(ki e _ _ ig rn),k1 et (kk e) (aJ hg (cI rn).symm) fr (.last (aG (ki e _ _ ig rn) _)) (hm.imp λ_ h=>aJ h ig.symm)⟩
   ·exact⟨ki e _ _ ig rn,k0 et (kk e) (aG (ki e _ _ ig rn) _)⟩
structure Mf(fs:Str->ae V)(ra rb:Nat):Prop where
 fj:fs "isjunk" =aa .none
 fu:fs "autojunk" =aa (.bool af)
 fa:fs "a" =aa (.ref ra)
 fb:fs "b" =aa (.ref rb)
inductive Mst(X:XX C)(H:MH)(s xa xb:Nat)(W:ac Op):ae Nat->Prop
 |fresh {ra rb rd rj m:Nat}{fs:Str->ae V}{f:Int->ae V}{a b:ac Int} (S:SM H s ra rb rd rj m fs f a b) (hm:fs "matching_blocks" =aa .none) (ho:fs "opcodes" =aa .none) (al:a.length<200) (rl:∀ r,Run a b [⟨0,a.length,0,b.length⟩] [] r->r.length<64) (hW:∀ l,Ops a b l->l=W) (mf:Mf fs xa xb):Mst X H s xa xb W none
 |kept {fs:Str->ae V}{c:Nat} (h:H[s]? =aa (.inst fs)) (hf:fs "opcodes" =aa (.ref c)) (hc:H[c]? =aa (.list (W.map Op.v))) (mf:Mf fs xa xb):Mst X H s xa xb W (aa c)
theorem rH(hx:H[x]? =aa m0)(mv:m0.vs=none)(k:∀ (r:Nat) (m:MO),r≠x->H[r]? =aa m->H'[r]? =aa m)(e:lst H (.ref r)=aa vs):lst H' (.ref r)=aa vs:=by
 have e:H[r]?.bind MO.vs=aa vs:=e
 show H'[r]?.bind MO.vs=aa vs
 refine xEA (aj.mp e) λm h1 h2=>?_
 exact aj.mpr ⟨m,k _ _ (λq=>by
  subst q
  refine cyS (hx▸h1) λzq=>?_;subst zq
  exact aE (mv.symm.trans h2)) h1,h2⟩
theorem SM.off{rd:Nat}(S:SM H s ra rb rd rj n fs f a b)(hx:H[x]? =aa m0)(xs:x≠s)(mv:m0.vs=none)(md:∀ k g,m0≠ .dict k g)(me:m0≠ .eset)(k:∀ (r:Nat) (m:MO),r≠x->H[r]? =aa m->H'[r]? =aa m):SM H' s ra rb rd rj n fs f a b:=by
 refine⟨k _ _ xs.symm S.o,S.fa,S.fb,S.fd,S.fj,rH hx mv k S.ia,rH hx mv k S.ib,k _ _ (λq=>?_) S.d,k _ _ (λq=>?_) S.j,λv=>(S.bj v).imp id fun⟨r,vs,e1,e2,e3⟩=>⟨r,vs,e1,rH hx mv k e2,e3⟩,S.al,S.bl⟩
 ·subst q;exact md _ _ (Option.some.inj (hx.symm.trans S.d))
 ·subst q;exact me (Option.some.inj (hx.symm.trans S.j))
theorem Mst.off{X:XX C}(M:Mst X H s xa xb W oc)(hx:H[x]? =aa m0)(xs:x≠s)(mv:m0.vs=none)(md:∀ k g,m0≠ .dict k g)(me:m0≠ .eset)(k:∀ (r:Nat) (m:MO),r≠x->H[r]? =aa m->H'[r]? =aa m):Mst X H' s xa xb W oc:=by
 cases M with
 |fresh S hm ho al rl hW mf=>exact .fresh (S.off hx xs mv md me k) hm ho al rl hW mf
 |kept h hf hc mf=>
  refine .kept (k _ _ xs.symm h) hf (k _ _ (λq=>?_) hc) mf
  subst q
  refine cyS (hx▸hc) λzq=>?_;subst zq
  exact cyM mv
theorem Mst.o{X:XX C}(M:Mst X H s xa xb W oc):∃ ff,H[s]? =aa (.inst ff):=by
 cases M with
 |fresh S=>exact⟨_,S.o⟩
 |kept h=>exact⟨_,h⟩
structure Asked(X:XX C)(H H':MH)(s xa xb:Nat)(W:ac Op)(oc:ae Nat)(c:Nat):Prop where
 ex:Ex H H' s
 st:Mst X H' s xa xb W (aa c)
 oc:(oc=aa c/\H'=H)\/(oc=none/\c=H.length)
theorem Mst.ask{X:XX C}(M:Mst X H s xa xb W oc)(k:∀ {H' c},Asked X H H' s xa xb W oc c->Q (.ref c) H'):aU X [.ref s] H Q:=by
 cases M with
 |fresh S hm ho al rl hW mf=>
  exact nC X S hm ho al rl λ{H2 r l} e1 e2 e3 e4 O=>k ⟨e1,.kept e3 ⋯ (hW l O▸e4) ⟨mf.fj,mf.fu,mf.fa,mf.fb⟩,.inr ⟨rfl,rfl⟩⟩
 |kept h hf hc mf=>
  exact kch (xD X) ⟨rfl,At.mk h hf (Lp.mk rfl (Lf.mk rfl (aW (At.mk h hf (k ⟨λ_ _ _ e=>e,.kept h hf hc mf,.inl ⟨rfl,rfl⟩⟩)))))⟩
structure G1(X:XX C)(H H':MH)(gi s xa xb:Nat)(oc:ae Nat)(W':ac Op)(c it cd:Nat):Prop where
 kp:∀ (r:Nat) (m:MO),r≠gi->r≠s->oc≠aa r->H[r]? =aa m->H'[r]? =aa m
 ks:oc≠none->∀ m,H[s]? =aa m->H'[s]? =aa m
 st:Mst X H' s xa xb W' (aa c)
 oc:oc=aa c\/(oc=none/\H[c]? =none)
 itn:H[it]? =none
 ic:it≠cd
 ig:it≠gi
 gc:gi≠cd
 is_:it≠s
 io:it≠c
 go:gi≠c
 cdn:cd=c\/W'= []
def jI(H:MH)(i:Nat):Nat->ae MO:=λr=>if r=i then none else H[r]?
theorem aE2:jI H i i=none:=aw rfl
theorem y4:Hp (jI H i) H:=λr m e=>by
 unfold jI at e
 split at e
 ·exact aE e
 ·exact e
theorem Hp.b1(h:Hp (jI H i) H')(e:H[r]? =aa m)(n:r≠i):H'[r]? =aa m:=h _ _ ((aq n).trans e)
theorem aAa(M:Mst X H s xa xb W oc)(ll:W.length<=200)(hg:H[gi]? =aa (.gen (.fresh (loB ["self","n"] [.ref s,.int n] lo0))))(k0:∀ {H' c it cd},groups n W= []->G1 X H H' gi s xa xb oc (aV n W) c it cd->H'[gi]? =aa (.gen .fin)->Q none H')(k1:∀ {H' r g gs c it cd},groups n W=g::gs->G1 X H H' gi s xa xb oc (aV n W) c it cd->H'[r]? =aa (.list (g.map Op.v))->H[r]? =none->GnT n H' gi it cd (gO n (kH n (fW W))) gs->(∃ m,H'[it]? =aa m)->r≠c/\r≠it->Q (aa (.ref r)) H'):(gfn X).nx gi H Q:=by
 refine Lf.mk (uH hg) ?_
 show aDp X (loB ["self","n"] [.ref s,.int n] lo0) _ _
 rw[kP_0]
 rw[kP_0]at hg
 refine xE M.o λff so=>?_
 have gs:gi≠s:=λq=>by
  subst q
  exact ba (hg.symm.trans so) nofun
 have rr:=aG hg (MO.gen .run)
 have kp1:∀ (r:Nat) (m:MO),r≠gi->H[r]? =aa m->(H.set gi (.gen .run))[r]? =aa m:=λr m q e=>aJ e q.symm
 have gc0:∀ c,oc=aa c->gi≠c:=λc q e=>by
  subst q
  subst e
  cases M with
  |kept h hf hc _=>exact ba (hg.symm.trans hc) nofun
 have M1:=M.off hg gs rfl nofun nofun kp1
 have fr1:∀ c:Nat,(H.set gi (MO.gen .run))[c]? =none->H[c]? =none:=λc e=>by
  rw[getElem?_eq_none_iff,jj]at e
  exact eu e
 revert rr kp1 M1 fr1
 generalize H.set gi (.gen .run)=Hr
 refine λrr kp1 M1 fr1=>(kch (gp_1 X _) ⟨M1.o,M1.ask λ{H2 c} A=>?_⟩)
 have r2:=A.ex _ _ gs.symm rr
 have st:=A.st
 have go:gi≠c:=by
  rcases A.oc with ⟨q,_⟩ |⟨_,q⟩
  ·exact gc0 c q
  ·exact rwL q ((cI rr).symm)
 have oc':oc=aa c\/(oc=none/\H[c]? =none):=by
  rcases A.oc with ⟨q,_⟩ |⟨q1,q2⟩
  ·exact .inl q
  ·exact .inr ⟨q1,fr1 c (q2▸aM Hr)⟩
 have kp2:∀ (r:Nat) (m:MO),r≠gi->r≠s->H[r]? =aa m->H2[r]? =aa m:=λr m q1 q2 e=>A.ex _ _ q2.symm (kp1 _ _ q1 e)
 have ks2:oc≠none->∀ m,H[s]? =aa m->H2[s]? =aa m:=λq m e=>by
  rcases A.oc with ⟨_,z⟩ |⟨z,_⟩
  ·exact rwL z (kp1 _ _ gs.symm e)
  ·exact ba z q
 have fr2:∀ x:Nat,H2[x]? =none->H[x]? =none:=λx e=>by
  cases h:H[x]? with
  |none=>rfl
  |some m=>
   by_cases q1:x=gi
   ·subst q1;exact aE (e.symm.trans r2)
   ·by_cases q2:x=s
    ·subst q2;exact xE st.o λff z=>aE (e.symm.trans z)
    ·exact aE (e.symm.trans (kp2 _ _ q1 q2 h))
 clear A kp1 rr M1 fr1
 cases st with
 | @kept fs _ s2 hf h2 mf=>
 delta kP
 rw[aD]
 refine gp2_i X h2 (A310 ll) λ{H3 cd} x3 h3 hcd=>gp34_i X h3 λ{H4 u1 u2 u3 u4 u5} e4 h4=>?_
 have so':cd≠s:=λq=>by
  subst q
  exact ba (h3.symm.trans (x3 _ _ s2)) nofun
 have fin:(cd=c\/aV n W= [])/\gi≠cd/\H4[c]? =aa (.list ((aV n W).map Op.v))/\∀ (r:Nat) (m:MO),r≠c->H2[r]? =aa m->H4[r]? =aa m:=by
  rcases hcd with ⟨ne,rfl⟩ |⟨e,rfl⟩
  ·refine⟨.inl rfl,go,?_,λr m q h=>e4 _ _ q.symm (x3 _ _ h)⟩
   cases W with
   |nil=>exact ba rfl ne
   |cons o l=>exact h4
  ·refine⟨.inr (by rw[e];rfl),(cI r2).symm,?_,λr m q h=>e4 _ _ (cI h) (x3 _ _ h)⟩
   subst e
   exact e4 _ _ (cI h2) (x3 _ _ h2)
 clear hcd
 refine xAAA fin λcdn gc c4 kp4=>?_
 have r4:=kp4 _ _ go r2
 have scn:s≠c:=λq=>by
  subst q
  exact ba (h2.symm.trans s2) nofun
 have g1:∀ {H':MH}{it:Nat},Hp (jI H4 gi) H'->H4[it]? =none->it≠cd->G1 X H H' gi s xa xb oc (aV n W) c it cd:=λ{H' it} h hi ic=>
  ⟨λr m q1 q2 q3 e=>h.b1 (kp4 _ _ (λq=>q3 (oc'.elim (λz=>q▸z) λz=>aE (z.2.symm.trans (q▸e)))) (kp2 _ _ q1 q2 e)) q1,
   λq m e=>h.b1 (kp4 _ _ scn (ks2 q m e)) gs.symm,.kept (h.b1 (kp4 _ _ scn s2) gs.symm) hf (h.b1 c4 go.symm) mf,oc',fr2 _ (by
    cases z:H2[it]? with
    |none=>rfl
    |some m=>
     by_cases q:it=c
     ·subst q;exact aE (hi.symm.trans c4)
     ·exact aE (hi.symm.trans (kp4 _ _ q z))),ic,λq=>aE (hi.symm.trans (q▸r4)),gc,λq=>aE (hi.symm.trans (q▸(kp4 _ _ scn s2))),λq=>aE (hi.symm.trans (q▸c4)),go,cdn⟩
 have fr4:∀ x:Nat,H4[x]? =none->H[x]? =none:=λx e=>fr2 _ (by
  cases z:H2[x]? with
  |none=>rfl
  |some m=>
   by_cases q:x=c
   ·subst q;exact aE (e.symm.trans c4)
   ·exact aE (e.symm.trans (kp4 _ _ q z)))
 have b4:Hp (jI H4 gi) H4:=y4
 have alen:(gO n (kH n (fW W))).length<=201:=by rw[nN,uN];exact Nat.le_trans (wJ W) (kh ll)
 have c5:=Hx.app H4 [MO.list []] _ _ h4
 have g5:=bC H4 (.list [])
 have r5:=Hx.app H4 [MO.list []] _ _ r4
 have x5:Hp (jI H4 gi) (H4++[MO.list []]):=b4.hx (.app _ _)
 have i5:=(Hx.app H4 [MO.list []]).fresh
 have gb:=b4.fresh
 have cg:=cI h4
 have rg:=cI r4
 have gfr:=fr4 _ (aM H4)
 have gn:H4.length≠c/\H4.length≠(H4++[MO.list []]).length:=⟨cI c4,by exact rwL am ((Nat.succ_ne_self _).symm)⟩
 refine kch (B:=((∃ vs,lst (H4++[MO.list []]) (.ref cd)=aa vs)/\(gfn X).loop (H4++[MO.list []]).length (kL s n cd H4.length u1 u2 u3 u4 u5) ((H4++[MO.list []])++[.itr (aa (cd,0))]) (GFn.finK gi Q))) ⋯ ⟨⟨_,aT c5⟩,?_⟩
 revert c5 g5 r5 x5 gb cg rg i5 gfr gn
 generalize H4.length=gr
 generalize H4++[MO.list []]=H5
 intro c5 g5 r5 x5 i5 gb cg rg gfr gn
 have k6:Hx H5 (H5++[MO.itr (aa (cd,0))]):=.app _ _
 have ic:=cI c5
 have ig:=cI r5
 have G:=λ{H':MH}{m:MO} (e:Ex2 (H5++[MO.itr (aa (cd,0))]) H' H5.length gr)=>g1 ((e.hx (x5.hx k6) x5.fresh gb).set (m:=m) aE2) i5 ic
 refine⟨_,rJ X ic (cI g5) cg (gO n (kH n (fW W))) (cur:=[]) (ce _) rfl (k6 _ _ c5) (bC _ _) (k6 _ _ g5) (by exact rwL pu (A311 alen)) ⟨λ{H' o' p' g} e hi hg et h0 hpl hb=>?_,λ{H' lo g} e hg et hm=>?_,λ{H'} e et=>?_⟩⟩
 ·have r':=e _ _ ig rg (k6 _ _ r5)
  exact⟨r',k1 et (G e) (aJ hg rg.symm) gfr (.loop (aG r' _) (aJ (e _ _ ic cg (k6 _ _ c5)) gc) (aJ hi ig.symm) hpl (Nat.le_trans alen (by decide)) hb) ⟨_,aJ hi ig.symm⟩ gn⟩
 ·have r':=e _ _ ig rg (k6 _ _ r5)
  exact⟨r',k1 et (G e) (aJ hg rg.symm) gfr (.last (aG r' _)) (hm.imp λ_ h=>aJ h ig.symm) gn⟩
 ·have r':=e _ _ ig rg (k6 _ _ r5)
  exact⟨r',k0 et (G e) (aG r' _)⟩
def wV(o:Op):Prop:=o.tag.isEq=ag->o.i2-o.i1=o.j2-o.j1
def Bal(l:ac Op):Prop:=∀ o∈l,wV o
theorem tl_law(h:wV o)(e:o.tag.isEq=ag):Op.mk o.tag (o.i2-min m (o.i2-o.i1)) o.i2 (o.j2-min m (o.i2-o.i1)) o.j2=o.tl m:=by
 show _=Op.mk o.tag (max o.i1 (o.i2-m)) o.i2 (max o.j1 (o.j2-m)) o.j2
 rw[show o.i2-min m (o.i2-o.i1)=max o.i1 (o.i2-m) by exact Y22,show o.j2-min m (o.i2-o.i1)=max o.j1 (o.j2-m) by exact Y21 (h e)]
theorem hd_law(h:wV o)(e:o.tag.isEq=ag):Op.mk o.tag o.i1 (o.i1+min m (o.i2-o.i1)) o.j1 (o.j1+min m (o.i2-o.i1))=o.hd m:=by
 show _=Op.mk o.tag o.i1 (min o.i2 (o.i1+m)) o.j1 (min o.j2 (o.j1+m))
 rw[show o.i1+min m (o.i2-o.i1)=min o.i2 (o.i1+m) by exact Y20,show o.j1+min m (o.i2-o.i1)=min o.j2 (o.j1+m) by exact Y19 (h e)]
theorem qR(h:wV o):wV (tlE m o):=by
 intro e
 rw[j8]at e
 delta tlE
 exact rwL e (Y18 (h e):o.i2-max o.i1 (o.i2-m)=o.j2-max o.j1 (o.j2-m))
theorem x9(h:wV o):wV (hdE m o):=by
 intro e
 rw[lT]at e
 delta hdE
 exact rwL e (Y17 (h e):min o.i2 (o.i1+m)-o.i1=min o.j2 (o.j1+m)-o.j1)
theorem kT{α:Type}(l:ac α):l= []\/∃ a x,l=a++[x]:=(List.eq_nil_or_concat l).imp_right fun⟨a,x,h⟩=>⟨a,x,h.trans List.concat_eq_append⟩
theorem aDu(h:Bal l):Bal (aV m l):=by
 cases l with
 |nil=>exact h
 |cons o l=>
  rcases kT l with rfl |⟨L,z,rfl⟩
  ·intro x hx
   rw[i7]at hx
   cases cy.mp hx
   exact x9 (qR (h o (.head _)))
  ·intro x hx
   rw[gP]at hx
   rcases ez.mp hx with rfl |hx
   ·exact qR (h o (.head _))
   ·rcases ij.mp hx with hx |hx
    ·exact h x (.tail _ (List.mem_append_left _ hx))
    ·cases cy.mp hx
     exact x9 (h z (.tail _ (List.mem_append_right _ (.head _))))
def isE(o:Op):dj:=o.tag.isEq
theorem qD(m:Int)(l:ac Op):(aV m l).map isE=l.map isE:=by
 cases l with
 |nil=>rfl
 |cons o l=>
  rcases kT l with rfl |⟨L,z,rfl⟩
  ·show [isE (hdE m (tlE m o))]= [isE o]
   delta isE
   rw[lT,j8]
  ·rw[gP]
   show isE (tlE m o)::(L++[hdE m z]).map isE=isE o::(L++[z]).map isE
   rw[cz,cz]
   show isE (tlE m o)::(L.map isE++[isE (hdE m z)])=isE o::(L.map isE++[isE z])
   delta isE
   rw[lT,j8]
def alt:ac dj->Prop
 |a::b::l=>a= !b/\alt (b::l)
 |_=>vx
theorem aE9{a:dj}(h:alt (a::l)):alt l:=by
 cases l with
 |nil=>trivial
 |cons b l=>exact h.2
theorem Cod.alt(h:Cod a b f i j l):alt (l.map isE)/\∀ g,f=aa g->∀ x,(l.map isE).head? =aa x->x= !g:=by
 induction h with
 |nil=>exact⟨trivial,λg _ x hx=>nomatch hx⟩
 | @eq f i j k l hf p m h ih=>
  refine⟨?_,λg hg x hx=>?_⟩
  ·refine xA ih λh1 h2=>?_
   cases e:l.map isE with
   |nil=>rw[jf,e];trivial
   |cons y ys=>
    rw[jf,e]
    have:=h2 ag rfl y (by rw[e];rfl)
    exact rwL this ⟨rfl,this▸e▸h1⟩
  ·have:=by rw[jf,List.head?_cons]at hx;exact(Option.some.inj hx).symm
   cases g with
   |true=>exact ba hg hf
   |false=>exact this
 | @ch f i j i' j' g0 l hf hg hi hj lt h ih=>
  have e0:isE ⟨g0,i,i',j,j'⟩=af:=by cases g0<;>first |rfl |exact ba rfl hg
  refine⟨?_,λg hg x hx=>?_⟩
  ·obtain⟨h1,h2⟩:=ih
   cases e:l.map isE with
   |nil=>rw[jf,e];trivial
   |cons y ys=>
    rw[jf,e,e0]
    have:=h2 af rfl y (by rw[e];rfl)
    exact rwL this ⟨rfl,this▸e▸h1⟩
  ·have:=by rw[jf,List.head?_cons,e0]at hx;exact(Option.some.inj hx).symm
   cases g with
   |false=>exact ba hg hf
   |true=>exact this
theorem Cod.bal(h:Cod a b f i j l):Bal l:=by
 induction h with
 |nil=>exact λ_ h=>ba h fg
 | @eq f i j k l hf p m h ih=>
  intro o ho
  rcases ez.mp ho with rfl |ho
  ·exact λ_=>(Y16:i+k-i=j+k-j)
  ·exact ih o ho
 | @ch f i j i' j' g0 l hf hg hi hj lt h ih=>
  intro o ho
  rcases ez.mp ho with rfl |ho
  ·intro e
   cases g0<;>first |exact ba rfl hg |cases e
  ·exact ih o ho
theorem Cod.le1(h:Cod a b f i j l):∀ o∈l,o.i1<=o.i2/\o.j1<=o.j2:=by
 induction h with
 |nil=>exact λ_ h=>ba h fg
 | @eq f i j k l hf p m h ih=>
  intro o ho
  rcases ez.mp ho with rfl |ho
  ·exact(Y15 p:i<=i+k/\j<=j+k)
  ·exact ih o ho
 | @ch f i j i' j' g0 l hf hg hi hj lt h ih=>
  intro o ho
  rcases ez.mp ho with rfl |ho
  ·exact⟨hi,hj⟩
  ·exact ih o ho
theorem Cod.len1(h:Cod a b f i j l):(l.length:Int)<=a.length-i+(b.length-j):=by
 induction h with
 |nil=>exact Y14
 |eq hf p m h ih=>exact rwL cq (Y13 p ih)
 |ch hf hg hi hj lt h ih=>exact rwL cq (Y12 hi hj lt ih)
theorem sS(n0:0<=n)(mn:m<=n):bE n (tlE m o)=af:=by
 delta bE
 rw[j8]
 cases e:o.tag.isEq with
 |false=>rfl
 |true=>
  delta tlE
  rw[e]
  show(ag && decide (o.i2-max o.i1 (o.i2-m)>n+n))=af
  rw[bc (Y11 n0 mn)];rfl
theorem iE(n0:0<=n)(mn:m<=n):bE n (hdE m o)=af:=by
 delta bE
 rw[lT]
 cases e:o.tag.isEq with
 |false=>rfl
 |true=>
  delta hdE
  rw[e]
  show(ag && decide (min o.i2 (o.i1+m)-o.i1>n+n))=af
  rw[bc (Y10 n0 mn)];rfl
theorem big_iE(h:bE n o=ag):o.tag.isEq=ag:=(bx.mp h).1
def segs(n:Int)(cur:ac Op):ac Op->ac (ac Op)
 | []=>[]
 | [z]=>[cur++[z]]
 |x::y::l=>bif bE n x then(cur++[x])::segs n [x] (y::l) else segs n (cur++[x]) (y::l)
theorem vL(n:Int)(cur:ac Op)(x y:Op)(l:ac Op):segs n cur (x::y::l)=bif bE n x then(cur++[x])::segs n [x] (y::l) else segs n (cur++[x]) (y::l):=rfl
theorem aGu(a z:Op)(c:ac Op):iK (a::(c++[z]))=ag:=by cases c<;>rfl
theorem kW(n0:0<=n):∀ (R:ac Op) (p:Op) (c:ac Op),R≠ []->(segs n (p::c) R).map (aV n)=grps n (tlE n p::c) (gO n R)
 | [],_,_,h=>ba rfl h
 | [z],p,c,_=>by
  show [aV n (p::(c++[z]))]=grps n (tlE n p::c) [hdE n z]
  rw[gP,d4,iE n0 (Int.le_refl n),fk,hU]
  show _=bif iK (tlE n p::(c++[hdE n z])) then _ else _
  rw[aGu];rfl
 |x::y::l,p,c,_=>by
  rw[vL]
  show _=grps n (tlE n p::c) (x::gO n (y::l))
  rw[d4]
  cases e:bE n x with
  |true=>
   rw[dy,dy,jf]
   show aV n (p::(c++[x]))::_=_
   rw[gP,kW n0 (y::l) x [] (gj _ _)]
   unfold tlE hdE
   rw[big_iE e];rfl
  |false=>
   rw[fk,fk]
   exact kW n0 (y::l) p (c++[x]) (gj _ _)
theorem uF(n0:0<=n)(ne:R≠ []):groups n (o::R)=(segs n [o] R).map (aV n):=by
 rw[kW n0 R o [] ne]
 cases R with
 |nil=>exact ba rfl ne
 |cons x l=>
  show grps n [] (tlE n o::gO n (x::l))=_
  rw[d4,sS n0 (Int.le_refl n)];rfl
def eS(g:ac Op):dj:=(g.map isE).any (!·)
theorem aDf(n:Int)(g:ac Op):eS (aV n g)=eS g:=by delta eS;rw[qD]
theorem m3:∀ (R:ac Op) (p:Op) (c:ac Op),R≠ []->alt ((p::(c++R)).map isE)->∀ s∈segs n (p::c) R,eS s=ag
 | [],_,_,h,_=>ba rfl h
 | [z],p,c,_,h=>λs hs=>by
  cases cy.mp hs
  delta eS
  cases c with
  |nil=>
   show(!isE p || (!isE z || false))=ag
   rw[h.1];cases isE z<;>rfl
  |cons q c=>
   show(!isE p || (!isE q || _))=ag
   rw[h.1];cases isE q<;>rfl
 |x::y::l,p,c,_,h=>λs hs=>by
  rw[vL]at hs
  have one:eS (p::c++[x])=ag:=by
   delta eS
   cases c with
   |nil=>
    show(!isE p || (!isE x || false))=ag
    rw[h.1];cases isE x<;>rfl
   |cons q c=>
    show(!isE p || (!isE q || _))=ag
    rw[h.1];cases isE q<;>rfl
  have tl:∀ c:ac Op,∀ p,alt ((p::(c++x::y::l)).map isE)->alt ((x::y::l).map isE):=λc=>by
   induction c with
   |nil=>exact λp h=>aE9 h
   |cons q c ih=>exact λp h=>ih q (aE9 h)
  cases e:bE n x with
  |true=>
   rw[e,dy]at hs
   rcases ez.mp hs with rfl |hs
   ·exact one
   ·exact m3 (y::l) x [] (gj _ _) (tl c p h) s hs
  |false=>
   rw[e,fk]at hs
   refine m3 (y::l) p (c++[x]) (gj _ _) ?_ s hs
   rw[dz];exact h
def eds(n:Int)(k:Nat):ac Op->ac Nat
 | []=>[]
 | [_]=>[]
 |x::y::l=>bif bE n x then k::eds n (k+1) (y::l) else eds n (k+1) (y::l)
theorem uY(n:Int)(k:Nat)(x y:Op)(l:ac Op):eds n k (x::y::l)=bif bE n x then k::eds n (k+1) (y::l) else eds n (k+1) (y::l):=rfl
def sls(rows:ac Op):ac Nat->ac (ac Op)
 |e::e'::es=>(rows.drop e).take (e'+1-e)::sls rows (e'::es)
 |_=>[]
theorem sls_c(rows:ac Op)(e e':Nat)(es:ac Nat):sls rows (e::e'::es)=(rows.drop e).take (e'+1-e)::sls rows (e'::es):=rfl
theorem mX:∀ (R:ac Op) (e k:Nat),R≠ []->e<k->rows.drop k=R->sls rows (e::(eds n k R++[rows.length-1]))=segs n ((rows.drop e).take (k-e)) R
 | [],_,_,h,_,_=>ba rfl h
 | [z],e,k,_,ek,hR=>by
  have hl:rows.length=k+1:=by
   have:=bg List.length hR
   rw[jg,bo]at this
   exact Y9 this
  show(rows.drop e).take (rows.length-1+1-e)::[]= [(rows.drop e).take (k-e)++[z]]
  rw[hl,show k+1-1+1-e=(k-e)+1 by exact Y8 ek,List.take_add_one,List.getElem?_drop,show e+(k-e)=k by exact Y6 ek,<-rk,hR];rfl
 |x::y::l,e,k,_,ek,hR=>by
  have hR':rows.drop (k+1)=y::l:=by rw[<-vm,hR];rfl
  have hx:(rows.drop e).take (k+1-e)=(rows.drop e).take (k-e)++[x]:=by
   rw[show k+1-e=(k-e)+1 by exact Y7 ek,List.take_add_one,List.getElem?_drop,show e+(k-e)=k by exact Y6 ek,<-rk,hR];rfl
  rw[uY,vL]
  cases q:bE n x with
  |true=>
   rw[dy,dy,ss,sls_c,hx,mX (y::l) k (k+1) (gj _ _) (ni k) hR',show k+1-k=1 by exact Y5,hR];rfl
  |false=>
   rw[fk,fk,mX (y::l) e (k+1) (gj _ _) (Nat.lt_succ_of_lt ek) hR',hx]
theorem kK:∀ (R:ac Op) (k:Nat),(eds n k R).length<=R.length
 | [],_=>ce 0
 | [_],_=>gw _
 |x::y::l,k=>by
  rw[uY]
  have:=kK (n:=n) (y::l) (k+1)
  cases bE n x with
  |true=>exact kh this
  |false=>exact je this
theorem sM:∀ (R:ac Op) (k:Nat),∀ e∈eds n k R,k<=e/\e+1<k+R.length
 | [],_,e,h=>ba h fg
 | [_],_,e,h=>ba h fg
 |x::y::l,k,e,h=>by
  rw[uY]at h
  refine rwL cq (rwL cq ?_)
  cases q:bE n x with
  |true=>
   rw[q,dy]at h
   rcases ez.mp h with rfl |h
   ·exact Y4
   ·exact Y3 (rwR cq ((sM (n:=n) (y::l) (k+1)) e h))
  |false=>
   rw[q,fk]at h
   exact Y3 (rwR cq ((sM (n:=n) (y::l) (k+1)) e h))
theorem uX:∀ (R:ac Op) (k:Nat),((List.range (R.length-1)).flatMap λj=>bif (R[j]?.elim af (bE n)) then [k+j] else [])=eds n k R
 | [],_=>rfl
 | [_],_=>rfl
 |x::y::l,k=>by
  rw[uY,show (x::y::l).length-1=l.length+1 from rfl,List.range_succ_eq_map,lz,List.flatMap_map,<-uX (y::l) (k+1)]
  show(bif bE n x then [k+0] else [])++(List.range l.length).flatMap (λj=>bif ((y::l)[j]?.elim af (bE n)) then [k+(j+1)] else [])=bif bE n x then k::_ else _
  rw[show (λj=>bif ((y::l)[j]?.elim af (bE n)) then [k+(j+1)] else [])=λj=>bif ((y::l)[j]?.elim af (bE n)) then [k+1+j] else [] from funext λj=>by rw[show k+(j+1)=k+1+j by exact Y2]]
  cases bE n x<;>rfl
def slK(rows:ac Op)(es:ac Nat)(k:Nat):ac Op:=(rows.drop (es[k]?.getD 0)).take ((es[k+1]?.getD 0)+1-es[k]?.getD 0)
theorem w7(rows:ac Op):∀ es:ac Nat,(List.range (es.length-1)).map (slK rows es)=sls rows es
 | []=>rfl
 | [_]=>rfl
 |e::e'::es=>by
  rw[sls_c,<-w7 rows (e'::es),show (e::e'::es).length-1=es.length+1 from rfl,List.range_succ_eq_map,jf,map_map]
  rfl
def lawG(n:Int)(rows:ac Op):ac (ac Op):=((List.range ((0::(eds n 1 (rows.drop 1)++[rows.length-1])).length-1)).map λk=>aV n (slK rows (0::(eds n 1 (rows.drop 1)++[rows.length-1])) k)).filter eS
theorem hV(n0:0<=n):groups n []= []:=by
 show grps n [] [hdE n (tlE n ⟨.eq,0,1,0,1⟩)]= []
 rw[d4,iE n0 (Int.le_refl n),fk,hU];rfl
theorem aGs(n0:0<=n)(ha:alt (rows.map isE)):lawG n rows=groups n rows:=by
 delta lawG
 show((List.range _).map (aV n∘slK rows _)).filter eS=_
 rw[<-map_map,w7]
 cases rows with
 |nil=>
  rw[hV n0]
  rfl
 |cons o R=>
  cases R with
  |nil=>
   refine(?_:[aV n [o]].filter eS=groups n [o])
   rw[i7]
   show _=grps n [] [hdE n (tlE n o)]
   rw[d4,iE n0 (Int.le_refl n),fk,hU]
   have e:eS [hdE n (tlE n o)]=iK ([]++[hdE n (tlE n o)]):=by
    delta eS
    show(!isE (hdE n (tlE n o)) || false)= !(hdE n (tlE n o)).tag.isEq
    rw[Bool.or_false];rfl
   refine rwR e ?_
   cases q:eS [hdE n (tlE n o)] with
   |true=>rw[List.filter_cons_of_pos q];rfl
   |false=>rw[List.filter_cons_of_neg (by rw[q];nofun)];rfl
  |cons x l=>
   show(List.map (aV n) (sls (o::x::l) (0::(eds n 1 (x::l)++[(o::x::l).length-1])))).filter eS=_
   rw[mX (x::l) 0 1 (gj _ _) Nat.zero_lt_one rfl,uF n0 (gj _ _)]
   refine List.filter_eq_self.mpr λg hg=>xEA (we.mp hg) λs hs e=>?_
   rw[<-e,aDf]
   exact m3 (x::l) o [] (gj _ _) ha s hs
theorem aE7(n0:0<=n)(mn:m<=n)(kn:k<=n):(aV m W).map (λo=>(isE o,bE n o))=(aV k W).map λo=>(isE o,bE n o):=by
 cases W with
 |nil=>rfl
 |cons o l=>
  rcases kT l with rfl |⟨L,z,rfl⟩
  ·rw[i7,i7]
   show [(isE _,bE n _)]= [(isE _,bE n _)]
   delta isE
   rw[iE n0 mn,iE n0 kn,lT,lT,j8,j8]
  ·rw[gP,gP]
   show(isE _,bE n _)::(L++[hdE m z]).map _=(isE _,bE n _)::(L++[hdE k z]).map _
   rw[cz,cz]
   show(isE _,bE n _)::(L.map _++[(isE _,bE n _)])=(isE _,bE n _)::(L.map _++[(isE _,bE n _)])
   delta isE
   rw[iE n0 mn,iE n0 kn,lT,lT,j8,j8,sS n0 mn,sS n0 kn]
theorem big_at(n0:0<=n)(mn:m<=n){p:Nat}(h:(aV m W)[p]? =aa o)(hb:bE n o=ag):(aV k W)[p]? =aa o:=by
 have no:∀ {x:Op},bE n x=af->aa x=aa o->fe:=λe q=>by refine cyS q λzq=>?_;subst zq;cases (hb▸e)
 cases W with
 |nil=>exact aE h
 |cons o1 l=>
  rcases kT l with rfl |⟨L,z,rfl⟩
  ·rw[i7]at h
   cases p with
   |zero=>exact(no (iE n0 mn) h).elim
   |succ p=>exact aE h
  ·rw[gP]at h ⊢
   cases p with
   |zero=>exact(no (sS n0 mn) h).elim
   |succ p=>
    have h:(L++[hdE m z])[p]? =aa o:=h
    show(L++[hdE k z])[p]? =aa o
    rcases mw p L.length with q |q
    ·rw[dl q]at h ⊢;exact h
    ·rw[dg q]at h
     cases e:p-L.length with
     |zero=>exact(no (iE n0 mn) (e▸h)).elim
     |succ j=>exact aE (e▸h)
def nb(n:Int):ac Op->Nat
 | []=>0
 |o::l=>(bif bE n o then 1 else 0)+nb n l
theorem vX(n:Int)(o:Op)(l:ac Op):nb n (o::l)=(bif bE n o then 1 else 0)+nb n l:=rfl
theorem aCf(n:Int)(l l':ac Op):nb n (l++l')=nb n l+nb n l':=by
 induction l with
 |nil=>exact(Nat.zero_add _).symm
 |cons o l ih=>rw[ss,vX,vX,ih,Nat.add_assoc]
theorem aCe:∀ {l l':ac Op},l.map (λo=>(isE o,bE n o))=l'.map (λo=>(isE o,bE n o))->∀ p,nb n (l.take p)=nb n (l'.take p)
 | [],[],_,p=>rfl
 | [],_::_,h,_=>nomatch h
 |_::_,[],h,_=>nomatch h
 |o::l,o'::l',h,p=>by
  cases p with
  |zero=>rfl
  |succ p=>
   rw[List.take_succ_cons,List.take_succ_cons,vX,vX,aCe ((jm.mp h).2) p,show bE n o=bE n o' from bg Prod.snd ((jm.mp h).1)]
theorem nb_c2(n0:0<=n)(mn:m<=n)(kn:k<=n)(p:Nat):nb n ((aV m W).take p)=nb n ((aV k W).take p):=aCe (aE7 n0 mn kn) p
theorem rU(hb:bE n o=ag):∀ (l1 cur:ac Op),(grps n cur (l1++o::l2)).drop (nb n l1+1)=grps n [o.tl n] l2:=λl=>by
 induction l with
 |nil=>
  intro cur
  show(grps n cur (o::l2)).drop 1=_
  rw[d4,hb];rfl
 |cons x l1 ih=>
  intro cur
  rw[ss,d4,vX]
  cases e:bE n x with
  |true=>
   rw[dy,dy,show 1+nb n l1+1=(nb n l1+1)+1 by exact Y31,List.drop_succ_cons]
   exact ih _
  |false=>
   rw[fk,fk,Nat.zero_add]
   exact ih _
theorem lC(p1:1<=p)(hb:bE n o=ag)(ho:l[p-1]? =aa o):(grps n [] l).drop (nb n (l.take p))=grps n [o.tl n] (l.drop p):=by
 have e1:l.take p=l.take (p-1)++[o]:=by
  conv=>lhs;rw[show p=(p-1)+1 by exact Y30 p1,List.take_add_one,ho]
  rfl
 have e2:l=l.take (p-1)++o::l.drop p:=by
  conv=>lhs;rw[<-List.take_append_drop p l,e1,dz]
  rfl
 have:=rU (l2:=l.drop p) hb (l.take (p-1)) []
 rw[<-e2]at this
 rw[e1,aCf,vX,hb]
 exact this
theorem yA:∀ cur,nb n l<=(grps n cur l).length:=by
 induction l with
 |nil=>exact λ_=>gw _
 |cons o l ih=>
  intro cur
  rw[d4,vX]
  cases e:bE n o with
  |true=>rw[dy,dy,cq];exact Y29 (ih [o.tl n])
  |false=>rw[fk,fk,Nat.zero_add];exact ih _
theorem xI(p:Nat):nb n (l.take p)<=nb n l:=by
 have:=aCf n (l.take p) (l.drop p)
 rw[List.take_append_drop]at this
 exact Y28 this
theorem aGt:∀ {c c':ac Op},c.map isE=c'.map isE->iK c=iK c'
 | [],[],_=>rfl
 | [],_::_,h=>nomatch h
 |_::_,[],h=>nomatch h
 | [o],[o'],h=>by
  show(!isE o)= !isE o'
  rw[(jm.mp h).1]
 | [_],_::_::_,h=>nomatch (jm.mp h).2
 |_::_::_,[_],h=>nomatch (jm.mp h).2
 |_::_::_,_::_::_,_=>rfl
theorem nI:∀ {l l' c c':ac Op},l.map (λo=>(isE o,bE n o))=l'.map (λo=>(isE o,bE n o))->c.map isE=c'.map isE->(grps n c l).length=(grps n c' l').length
 | [],[],c,c',_,h=>by rw[hU,hU,aGt h];cases iK c'<;>rfl
 | [],_::_,_,_,h,_=>nomatch h
 |_::_,[],_,_,h,_=>nomatch h
 |o::l,o'::l',c,c',h,hc=>by
  have h1:=(jm.mp h).1
  have h2:=(jm.mp h).2
  have e1:isE o=isE o':=bg Prod.fst h1
  rw[d4,d4,show bE n o=bE n o' from bg Prod.snd h1]
  cases bE n o' with
  |true=>
   rw[dy,dy,cq,cq,nI h2 (c':=[o'.tl n]) (by show [isE o]= [isE o'];rw[e1])]
  |false=>
   rw[fk,fk]
   refine nI h2 ?_
   rw[cz,cz,hc]
   show _++[isE o]=_++[isE o']
   rw[e1]
theorem aGz:∀ cur,(grps n cur l).length<=l.length+1:=by
 induction l with
 |nil=>
  intro cur
  rw[hU]
  cases iK cur with
  |true=>exact ce 1
  |false=>exact gw 1
 |cons o l ih=>
  intro cur
  rw[d4]
  cases bE n o with
  |true=>rw[dy,cq,cq];exact kh (ih _)
  |false=>rw[fk,cq];exact je (ih _)
def cW:ae Int->ac Op->ac Op
 |none,l=>l
 |some m,l=>aV m l
def least(o:ae Int)(n:Int):Int:=match o with |none=>n |some m=>min m n
def Nn(o:ae Int):Prop:=∀ m,o=aa m->0<=m
def Sg1(W:ac Op):Prop:=∀ o,W= [o]->o.i1<=o.i2/\o.j1<=o.j2
theorem rM(n0:0<=n)(h:Nn q):0<=least q n:=by
 cases q with
 |none=>exact n0
 |some m=>exact(Y27 n0 (h m rfl):0<=min m n)
theorem aGr:least q n<=n:=by
 cases q with
 |none=>exact Int.le_refl n
 |some m=>exact(Y26:min m n<=n)
theorem qK(n0:0<=n)(h:Nn q)(hs:Sg1 W):aV n (cW q W)=aV (least q n) W:=by
 cases q with
 |none=>rfl
 |some m=>
  show aV n (aV m W)=aV (min m n) W
  rw[wA n0 (h m rfl) hs,show min n m=min m n by exact Y25]
theorem hY(n0:0<=n)(m0:0<=m)(mn:m<=n)(hs:Sg1 W)(ne:W≠ []):groups n (aV m W)=grps n [] (aV m W):=by
 have:aV m W≠ []:=λe=>by
  have:=bg List.length e
  rw[d5]at this
  exact ne (List.length_eq_zero_iff.mp this)
 rw[iZ this,wA n0 m0 hs,show min n m=m by exact Y23 mn]
theorem rV(n0:0<=n)(h:Nn q)(hs:Sg1 W):groups n (cW q W)=groups n (aV (least q n) W):=by
 cases q with
 |none=>exact(nJ n0 (Int.le_refl n) hs).symm
 |some m=>
  show groups n (aV m W)=groups n (aV (min m n) W)
  rcases Int.le_total m n with z |z
  ·rw[show min m n=m by exact Y24 z]
  ·rw[show min m n=n by exact Y23 z,nJ n0 z hs,nJ n0 (Int.le_refl n) hs]
theorem uG(n0:0<=n)(m0:0<=m)(k0:0<=k)(mn:m<=n)(kn:k<=n)(hs:Sg1 W):(groups n (aV m W)).length=(groups n (aV k W)).length:=by
 cases W with
 |nil=>rfl
 |cons o l=>rw[hY n0 m0 mn hs (gj _ _),hY n0 k0 kn hs (gj _ _),nI (aE7 n0 mn kn) rfl]
theorem qB(n0:0<=n):(groups n l).length<=l.length+1:=by
 cases l with
 |nil=>exact rwL (hV n0) (gw _)
 |cons o l=>rw[iZ (gj _ _)];have:=aGz (n:=n) (l:=aV n (o::l)) [];rw[d5]at this;exact this
theorem Ya2{a b:Int}:0<a->b+a<=c/\d+a<=e/\c+f<=g/\e+f<=h/\0<f->b<c:=zzI 0x105a81f69002b41f40f400afb6c00216eb6a00216ca2b00216aa29002147a01f40f40087 [a,b,c,d,e,f,g,h]
theorem Ya3{a b:Int}:a<=b->c<=d->0<e->b+e<=f/\d+e<=g/\f+h<=i/\g+h<=j/\0<h->a<=f/\c<=g/\f+h<=i/\g+h<=j/\0<h:=zzI 0xa012022042520a6f07d03d002c6fb80085c2fb40085baa085b68085bc1f40f400b1bee002170bed00216eb2b00216db29002147b01f40f40087aea087a68087 [a,b,c,d,e,f,g,h,i,j]
theorem Ya4{a b:Int}:a<=b->0<c->d+c<=e/\b+c<=f->a<=f:=zzI 0x296da02b6aa400acaab002147a81f40f40087a68087 [a,b,c,d,e,f]
theorem Ya5{a b:Int}:a<=b->0<c->b+c<=d/\e+c<=f->a<=d:=zzI 0x256ba02b6ab000abaa9002147a81f40f40087a68087 [a,b,c,d,e,f]
class inductive Tree(a b:ac Int):Wd->ac T3->Prop
 |leaf {w:Wd} (h:∀ i j k,In a b w i j k->¬0<k):Tree a b w []
 |node {w:Wd}{i j k:Int}{x y:ac T3} (B:Best a b w i j k) (p:0<k) (hx:Tree a b ⟨w.al,i,w.bl,j⟩ x) (hy:Tree a b ⟨i+k,w.ah,j+k,w.bh⟩ y):Tree a b w (x++⟨i,j,k⟩::y)
class inductive Trs(a b:ac Int):ac Wd->ac (ac T3)->Prop
 |nil:Trs a b [] []
 |cons {w:Wd}{q:ac Wd}{x:ac T3}{xs:ac (ac T3)} (h:Tree a b w x) (t:Trs a b q xs):Trs a b (w::q) (x::xs)
theorem aAq(h:Trs a b (gU w i j q) bs):∃ x xs,Tree a b ⟨w.al,i,w.bl,j⟩ x/\Trs a b q xs/\bs.flatten=x++xs.flatten:=by
 unfold gU at h
 split at h
 ·cases h with
  |cons h t=>exact⟨_,_,h,t,rfl⟩
 ·rename_i n
  exact⟨[],bs,.leaf λi' j' k' B p=>n ⟨by exact(iy (Int.lt_of_le_of_lt B.i0 (iz i' p)) B.i1:w.al<i),iy (Int.lt_of_le_of_lt B.j0 (iz j' p)) B.j1⟩,h,rfl⟩
theorem aAp(h:Trs a b (iU w i j k q) bs):∃ x xs,Tree a b ⟨i+k,w.ah,j+k,w.bh⟩ x/\Trs a b q xs/\bs.flatten=x++xs.flatten:=by
 unfold iU at h
 split at h
 ·cases h with
  |cons h t=>exact⟨_,_,h,t,rfl⟩
 ·rename_i n
  exact⟨[],bs,.leaf λi' j' k' B p=>n ⟨iy (Int.lt_of_le_of_lt B.i0 (iz i' p)) B.i1,iy (Int.lt_of_le_of_lt B.j0 (iz j' p)) B.j1⟩,h,rfl⟩
theorem Run.tree(h:Run a b q m r):∃ bs,Trs a b q bs/\r.Perm (m++bs.flatten):=by
 induction h with
 |nil=>exact⟨[],.nil,by rw[List.flatten_nil,cw]⟩
 |zero B h ih=>
  refine xEA ih λbs t p=>?_
  exact⟨[]::bs,.cons (.leaf λi' j' k' n q=>ba ((B.g i' j' k' n q).pos q) (ju _)) t,p⟩
 | @pos w q m r i j k B p h ih=>
  refine xEA ih λbs t pm=>?_
  obtain⟨y,ys,hy,t1,e1⟩:=aAp t
  obtain⟨x,xs,hx,t2,e2⟩:=aAq t1
  refine⟨(x++⟨i,j,k⟩::y)::xs,.cons (.node B p hx hy) t2,pm.trans ?_⟩
  rw[e1,e2,List.flatten_cons,dz,dz]
  refine List.Perm.append_left m ?_
  show(T3.mk i j k::(y++(x++xs.flatten))).Perm (x++T3.mk i j k::(y++xs.flatten))
  refine List.Perm.trans (.cons _ ?_) List.perm_middle.symm
  rw[<-dz,<-dz]
  exact List.Perm.append_right _ List.perm_append_comm
theorem Tree.uniq(h:Tree a b w x):Tree a b w y->x=y:=by
 induction h generalizing y with
 |leaf h=>
  intro h'
  cases h' with
  |leaf=>rfl
  |node B p=>exact ba p (h _ _ _ B.n)
 |node B p hx hy ih1 ih2=>
  intro h'
  cases h' with
  |leaf h=>exact ba p (h _ _ _ B.n)
  |node B' p' hx' hy'=>
   refine xAA (B.uniq B') λe1 e2 e3=>?_
   subst e1 e2 e3
   rw[ih1 hx',ih2 hy']
class inductive Seq:Int->Int->ac T3->Int->Int->Prop
 |nil {i j i' j':Int} (hi:i<=i') (hj:j<=j'):Seq i j [] i' j'
 |cons {i j i' j':Int}{t:T3}{l:ac T3} (hi:i<=t.i) (hj:j<=t.j) (p:0<t.k) (h:Seq (t.i+t.k) (t.j+t.k) l i' j'):Seq i j (t::l) i' j'
theorem Seq.app(h:Seq i j l i' j')(g:Seq i' j' m x y):Seq i j (l++m) x y:=by
 induction h with
 | @nil i j i' j' hi hj=>
  cases g with
  |nil h1 h2=>exact .nil (bw hi h1) (bw hj h2)
  |cons h1 h2 p h=>exact .cons (bw hi h1) (bw hj h2) p h
 |cons hi hj p h ih=>exact .cons hi hj p (ih g)
theorem Tree.seq(h:Tree a b w x):w.al<=w.ah->w.bl<=w.bh->Seq w.al w.bl x w.ah w.bh:=by
 induction h with
 |leaf=>exact .nil
 |node B p hx hy ih1 ih2=>
  intro h1 h2
  have n:=B.n
  exact(ih1 n.i0 n.j0).app (.cons (Int.le_refl _) (Int.le_refl _) p (ih2 n.i1 n.j1))
theorem Seq.low(h:Seq i j l x y):∀ t∈l,i<=t.i/\j<=t.j/\t.i+t.k<=x/\t.j+t.k<=y/\0<t.k:=by
 have le:∀ {i j x y:Int}{l:ac T3},Seq i j l x y->i<=x/\j<=y:=λh=>by
  induction h with
  |nil hi hj=>exact⟨hi,hj⟩
  |cons hi hj p h ih=>exact⟨Ya5 hi p ih,Ya4 hj p ih⟩
 induction h with
 |nil=>exact λ_ h=>ba h fg
 | @cons i j i' j' t l hi hj p h ih=>
  intro u hu
  rcases ez.mp hu with rfl |hu
  ·exact⟨hi,hj,(le h).1,(le h).2,p⟩
  ·exact Ya3 hi hj p (ih u hu)
theorem Seq.sd(h:Seq i j l x y):wR T3.i l:=by
 induction h with
 |nil=>exact .nil
 |cons hi hj p h ih=>exact fp.mpr ⟨λu hu=>by exact Ya2 p (h.low u hu),ih⟩
theorem Run.is(h:Run a b [⟨0,a.length,0,b.length⟩] [] r)(t:Tree a b ⟨0,a.length,0,b.length⟩ T):isort T3.i r=T:=by
 refine xEA h.tree λbs t2 p=>?_
 cases t2 with
 |cons t3 t4=>
  cases t4
  rw[t3.uniq t]at p
  rw[List.flatten_cons,List.flatten_nil,cw,List.nil_append]at p
  exact kS ((cQ T3.i r).trans p) (nH h.sorted.1) (t.seq (cj _) (cj _)).sd
theorem Run.tree0(h:Run a b [⟨0,a.length,0,b.length⟩] [] r):Tree a b ⟨0,a.length,0,b.length⟩ (isort T3.i r):=by
 refine xEA h.tree λbs t2 p=>?_
 cases t2 with
 |cons t3 t4=>
  cases t4
  exact rwL (h.is t3) t3
theorem In.sb(h:In a b v i j k)(s:Sb v w):In a b w i j k:=by
 obtain⟨s1,s2,s3,s4⟩:=s
 exact⟨bw s1 h.i0,bw h.i1 s2,bw s3 h.j0,bw h.j1 s4,h.k0,h.m⟩
theorem Tree.mem(h:Tree a b w l):∀ t∈l,In a b w t.i t.j t.k/\0<t.k:=by
 induction h with
 |leaf h=>exact λ_ h=>ba h fg
 | @node w i j k x y B p hx hy ihx ihy=>
  intro t ht
  rcases ij.mp ht with ht |ht
  ·exact⟨(ihx t ht).1.sb (sb1 B.n),(ihx t ht).2⟩
  ·rcases ez.mp ht with rfl |ht
   ·exact⟨B.n,p⟩
   ·exact⟨(ihy t ht).1.sb (sb2 B.n),(ihy t ht).2⟩
theorem Mt.join1(h:Mt a b i j k)(h':Mt a b (i+k) (j+k) m):Mt a b i j (k+m):=λt h1 h2=>by
 by_cases q:t<k
 ·exact h t h1 q
 ·have:=h' (t-k) (Y50 q) (Y49 h2)
  rw[show i+k+(t-k)=i+t by exact Y48,show j+k+(t-k)=j+t by exact Y48]at this
  exact this
theorem Tree.cnt(h:Tree a b w l):w.al<=w.ah->w.bl<=w.bh->l≠ []->∃ p q:Int,(p=1\/(p=0/\∃ t,l.head? =aa t/\t.i=w.al/\t.j=w.bl))/\(q=1\/(q=0/\∃ t,l.getLast? =aa t/\t.i+t.k=w.ah/\t.j+t.k=w.bh))/\3*(l.length:Int)+p+q<=(w.ah-w.al)+(w.bh-w.bl)+1:=by
 induction h with
 |leaf h=>exact λ_ _ h=>ba rfl h
 | @node w i j k x y B p hx hy ihx ihy=>
  intro h1 h2 _
  have i0:=B.n.i0;have i1:=B.n.i1;have j0:=B.n.j0;have j1:=B.n.j1
  have L:∃ p:Int,(p=1\/(p=0/\∃ t,(x++⟨i,j,k⟩::y).head? =aa t/\t.i=w.al/\t.j=w.bl))/\3*(x.length:Int)+p<=(i-w.al)+(j-w.bl):=by
   cases x with
   |nil=>
    by_cases q:i=w.al/\j=w.bl
    ·exact⟨0,.inr ⟨rfl,⟨i,j,k⟩,rfl,q⟩,by exact(Y47 q:3*((0:Nat):Int)+0<=_)⟩
    ·exact⟨1,.inl rfl,by exact(Y46 i0 j0 q:3*((0:Nat):Int)+1<=_)⟩
   |cons t0 x=>
    obtain⟨p1,q1,hp,hq,e⟩:=ihx i0 j0 (gj _ _)
    refine⟨p1,hp,?_⟩
    rcases hq with rfl |⟨_,t,ht,e1,e2⟩
    ·exact Y45 e
    ·obtain⟨nt,pt⟩:=hx.mem t (List.mem_of_getLast? ht)
     have nt:=nt.sb (sb1 B.n)
     rcases (B.g t.i t.j (t.k+k) ⟨nt.i0,by rw[<-nj,e1];exact i1,nt.j0,by rw[<-nj,e2];exact j1,by exact Y37 p nt.k0,nt.m.join1 (by exact rwL e1 (rwL e2 B.n.m))⟩ (Y44 p pt)) with z |z
     ·exact Y43 pt z
     ·exact Y42 pt z
  have R:∃ q:Int,(q=1\/(q=0/\∃ t,(x++⟨i,j,k⟩::y).getLast? =aa t/\t.i+t.k=w.ah/\t.j+t.k=w.bh))/\3*(y.length:Int)+q<=(w.ah-(i+k))+(w.bh-(j+k)):=by
   cases y with
   |nil=>
    by_cases q:i+k=w.ah/\j+k=w.bh
    ·exact⟨0,.inr ⟨rfl,⟨i,j,k⟩,by rw[List.getLast?_append];rfl,q⟩,by exact(Y41 q:3*((0:Nat):Int)+0<=_)⟩
    ·exact⟨1,.inl rfl,by exact(Y40 i1 j1 q:3*((0:Nat):Int)+1<=_)⟩
   |cons t0 y=>
    obtain⟨p1,q1,hp,hq,e⟩:=ihy i1 j1 (gj _ _)
    refine⟨q1,?_,?_⟩
    ·rcases hq with z |⟨z,t,ht,e1⟩
     ·exact .inl z
     ·refine .inr ⟨z,t,?_,e1⟩
      rw[List.getLast?_append,List.getLast?_cons_cons,ht];rfl
    ·rcases hp with rfl |⟨_,t,ht,e1,e2⟩
     ·exact Y39 e
     ·have e1:t.i=i+k:=e1
      have e2:t.j=j+k:=e2
      obtain⟨nt,pt⟩:=hy.mem t (List.mem_of_head? ht)
      have nt:=nt.sb (sb2 B.n)
      rcases (B.g i j (k+t.k) ⟨i0,by exact Y38 e1 nt.i1,j0,by exact Y38 e2 nt.j1,Y37 pt B.n.k0,B.n.m.join1 (by exact rwR e1 (rwR e2 nt.m))⟩ (Y36 pt B.n.k0)) with z |z
      ·exact Y35 pt z
      ·exact Y34 pt z
  refine xEA L λp1 hp e1=>?_
  refine xEA R λq1 hq e2=>?_
  exact⟨p1,q1,hp,hq,rwL am (rwL cq (Y33 p e1 e2))⟩
theorem Run.few(h:Run a b [⟨0,a.length,0,b.length⟩] [] r)(al:a.length+b.length<=188):r.length<64:=by
 have e:=(cQ T3.i r).length_eq
 by_cases q:isort T3.i r= []
 ·rw[q]at e;refine rwR e ?_;decide
 ·obtain⟨p1,q1,hp,hq,e1⟩:=h.tree0.cnt (cj _) (cj _) q
  have p0:0<=p1:=by rcases hp with rfl |⟨rfl,_⟩<;>decide
  have q0:0<=q1:=by rcases hq with rfl |⟨rfl,_⟩<;>decide
  exact Y32 al (rwR e e1) p0 q0
theorem eqE_i{α:Type}(f:α->V)(d:α->kx){l:ac α}{P:dj->MH->Prop}(h1:lst H (.ref r)=aa (l.map f))(h2:lst H (.ref r')=aa [])(hd:∀ x∈l,rd H 7 (f x)=aa (d x))(hs:∀ x∈l,(d x).canLay0=ag/\(d x).depth<=9)(q:P (!l.isEmpty) H):Lp (aS not (.ref r) (.ref r') H) λv H1=>Lf (tr v H1) λb=>P b H1:=Lp.mk (by delta aS;rw[aAe f d h1 h2 hd hs];rfl) (Lf.mk rfl q)
theorem add_i(q:Q (.int (x+y)) H):Lp (aL (.int x) (.int y) H) Q:=Lp.mk rfl q
theorem aA7(q:Q (.int (x-y)) H):Lp (b5 (.int x) (.int y) H) Q:=Lp.mk rfl q
theorem kZ:∀ (n:Nat) (x:Int),lQ x 1 n=(List.range n).map λk=>V.int (x+(k:Nat))
 |0,x=>rfl
 |n+1,x=>by
  rw[aF6,kZ n (x+1),List.range_succ_eq_map,jf,map_map]
  congr 1
  ·rw[Int.natCast_zero,qa]
  ·refine List.map_congr_left λk _=>?_
   show V.int (x+1+(k:Int))=V.int (x+((k+1:Nat):Int))
   rw[Int.natCast_add,nj,Int.add_comm 1];rfl
def nv(k:Nat):V:=.int (k:Nat)
theorem aBt(n:Nat):lQ 0 1 n=(List.range n).map nv:=by
 rw[kZ]
 exact List.map_congr_left λk _=>bg V.int (th _)
theorem rng1_i(q:Q (.rng 0 n 1) H):dF [.int n] H Q:=kch ⋯ q
theorem r7{α:Type}{out:α->ac V}(h:∀ x,(out x).length<=1):∀ l:ac α,(l.flatMap out).length<=l.length:=λn=>by
 induction n with
 |nil=>
  exact ce _
 |cons x l ih=>
  exact rwL lz (rwL am (rwL cq (Y56 ih (h x))))
theorem cH:upd lo x v x=aa v:=aw rfl
theorem aAo(q:E (upd lo x v) H λw H1=>Lf (H1[ai]?.bind MO.own) λvs=>vs.length<1000000/\P (upd lo x v) (H1.set ai (.list (vs++[w])))):lL (aN x) (tK ag) (eY E ai) v lo H P:=q
theorem wX(q:F (upd lo x v) H λw H1=>Lf (tr w H1) λb=>bif b then(E (upd lo x v) H1 λw H1=>Lf (H1[ai]?.bind MO.own) λvs=>vs.length<1000000/\P (upd lo x v) (H1.set ai (.list (vs++[w])))) else P (upd lo x v) H1):lL (aN x) (aX (tE F) (tK ag)) (eY E ai) v lo H P:=kch ⋯ q
theorem aEg(h:f lo H λv H0=>f1 lo H0 λa H1=>f2 lo H1 λb H2=>f3 lo H2 λc H3=>Lf (prt a) λpa=>Lf (prt b) λpb=>Lf (prt c) λpc=>Lp (slc v pa pb pc H3) Q):oP f f1 f2 f3 lo H Q:=h
def Evv(f:EF)(lo:Lo)(H:MH)(v:V):Prop:=∀ Q:EK,Q v H->f lo H Q
theorem Evv.bin(h1:Evv f1 lo H v1)(h2:Evv f2 lo H v2)(ho:g v1 v2 H=aa (w,H)):Evv (aA g f1 f2) lo H w:=λQ q=>bA (h1 _ (h2 _ (Lp.mk ho q)))
theorem Evv.n(h:lo x=aa v):Evv (eN x) lo H v:=λQ q=>aY h q
theorem Evv.k:Evv (eK v) lo H v:=λQ q=>q
theorem mul_e(h: -1000000000<x/\x<1000000000):oMul (.int x) (.int y) H=aa (.int (x*y),H):=aw (ao h)
theorem div_e(h:0<y/\y<1000000000):q7 (.int x) (.int y) H=aa (.int (x/y),H):=aw (ao h)
theorem kB(h:0<y):c6 (.int x) (.int y) H=aa (.int (x%y),H):=aw (ao h)
theorem add_e:aL (.int x) (.int y) H=aa (.int (x+y),H):=rfl
def vU(o:Op):ac V:=bif !o.tag.isEq then [o.v] else []
theorem outC_1(o:Op):(vU o).length<=1:=by
 delta vU
 cases !o.tag.isEq with
 |false=>exact gw _
 |true=>exact ce _
theorem ne_i{P:dj->MH->Prop}(h:eqv H x y=aa ag)(q:P af H):Lp (aS not x y H) λv H1=>Lf (tr v H1) λb=>P b H1:=Lp.mk (by delta aS;rw[h];rfl) (Lf.mk rfl q)
theorem qZ(h:f1 lo H λa H1=>f2 lo H1 λb H2=>Lp (aS not a b H2) λv H3=>Lf (tr v H3) λb=>bif b then(aB (dX (eK (.bool af))) (sK .next)) lo H3 K else K .next lo H3):sIf (tE (aA (aS not) f1 f2)) (aB (dX (eK (.bool af))) (sK .next)) (sK .next) lo H K:=h
theorem no_i{R S:MH->Prop}(h:eqv H x y=aa ag)(q:S H):Lp (aS not x y H) λv H3=>Lf (tr v H3) λb=>bif b then R H3 else S H3:=ne_i h (aR q)
theorem lenN_i(hx:lo x=aa (.ref r))(h:lst H (.ref r)=aa vs)(hl:vs.length<100000)(q:Q (.int vs.length) H):aK cM (esC (eN x) esN) lo H Q:=aY hx (lenM_i h (ko hl (by decide)) q)
theorem vW(q:Q (.int (-1)) H):gQ (eK (.int 1)) lo H Q:=q
theorem tM{α:Type}{K:ItK C}{bf:BF}(f:α->V)(Inv:ac α->Lo->MH->Prop)(hx:∀ {l lo H},Inv l lo H->Hx B H)(he:∀ {lo H},Inv [] lo H->Q lo H)(hs:∀ {x l lo H P},Inv (x::l) lo H->(∀ {lo' H'},Inv l lo' H'->P lo' H')->lL tgt t (bf ai) (f x) lo H P):∀ (l:ac α){it:K.σ}{lo:Lo}{H:MH},Its K B it (l.map f)->Inv l lo H->pI K tgt t (bf ai) (l.length+1) it lo H Q:=λn=>by
 induction n with
 |nil=>
  intro it lo H hi i
  cases hi with
  |nil h=>exact h (hx i) (he i)
 |cons x l ih=>
  intro it lo H hi i
  cases hi with
  |cons h ht=>exact h (hx i) (hs i λi'=>ih ht i')
theorem xR{K:ItK C}{σ:Nat->K.σ}(h:H[r]? =aa (.list vs))(hl:vs.length<1000000)(q:Q (.ref H.length) (H++[.list vs])):bW K σ [.ref r] H Q:=by
 have e:isG H [.ref r]=none:=by
  show(H[r]?.bind MO.gn).map _=_
  rw[h];rfl
 delta bW
 refine rwL e (Lp.mk ?_ q)
 show(lst H (.ref r)).bind _=_
 exact rwL (aT h) (aw hl)
theorem Lo.ne(h:y≠x):upd lo x v y=lo y:=aq h
theorem aH(h:g lo H K):bN g K .next lo H:=h
def Fs(l:ac (Str×V))(lo:Lo):Prop:=∀ x v,l.lookup x=aa v->lo x=aa v
theorem Fs.cons(h:Fs l lo)(x:Str)(v:V):Fs ((x,v)::l) (upd lo x v):=λy w e=>by
 rw[List.lookup]at e
 by_cases q:y=x
 ·subst q
  rw[nu]at e
  exact cH.trans e
 ·rw[show (y==x)=af by simpa using q]at e
  exact(Lo.ne q).trans (h y w e)
def rv{β:Type}(p:Nat×β):V:=.ref p.1
def HB{β:Type}(ob:β->ac V)(H:MH)(ps:ac (Nat×β)):Prop:=∀ p∈ps,H[p.1]? =aa (.list (ob p.2))
inductive NIv{α β:Type}(ob:β->ac V)(c:α->β)(I:Lo->Prop)(B:MH)(ai:Nat)(l:ac α)(rest:ac α)(lo:Lo)(H:MH):Prop
 |mk {done:ac (Nat×β)} (i:I lo) (hx:Hx B H) (h:H[ai]? =aa (.list (done.map rv))) (hd:∀ d∈done,H[d.1]? =aa (.list (ob d.2))/\d.1≠ai) (t:done.map Prod.snd++rest.map c=l.map c) (hr:∀ x∈rest,x∈l) (hf:∀ d∈done,B[d.1]? =none):NIv ob c I B ai l rest lo H
theorem hd_set{β:Type}{ob:β->ac V}{b:β}{done:ac (Nat×β)}(hd:∀ d∈done,H[d.1]? =aa (.list (ob d.2))/\d.1≠ai)(x:Hx H H2)(h:H2[r]? =aa (.list (ob b)))(n:r≠ai):∀ d∈done++[(r,b)],(H2.set ai m)[d.1]? =aa (.list (ob d.2))/\d.1≠ai:=λd hd'=>by
 rcases ij.mp hd' with hd' |hd'
 ·have:=hd d hd'
  exact⟨aJ (x _ _ this.1) this.2.symm,this.2⟩
 ·exact rwL (cy.mp hd') ⟨aJ h n.symm,n⟩
theorem aEr{α:Type}{K:ItK C}{fi:IF K}{it:K.σ}(ob:β->ac V)(f:α->V)(c:α->β)(I:Lo->Prop)(l:ac α)(hl:l.length<100000)(hf:∀ {P:K.σ->MH->Prop},P it H->fi lo H P)(hi:Its K H it (l.map f))(i0:I (hide hid lo))(hs:∀ x∈l,∀ {lo1:Lo}{H1:MH}{P:LK},I lo1->Hx H H1->(∀ {lo' H2 r},I lo'->Hx H1 H2->H2[r]? =aa (.list (ob (c x)))->H1[r]? =none->Lf (H2[H.length]?.bind MO.own) λvs=>vs.length<1000000/\P lo' (H2.set H.length (.list (vs++[.ref r]))))->lL tgt t (eY E H.length) (f x) lo1 H1 P)(k:∀ {H' ps},Hx H H'->H'[H.length]? =aa (.list (ps.map rv))->HB ob H' ps->ps.map Prod.snd=l.map c->(∀ p∈ps,H[p.1]? =none)->Q (.ref H.length) H'):eX K hid fi tgt t (eY E) lo H Q:=by
 refine hf ⟨_,tM f (NIv ob c I H H.length l) (λJ=>?_) (λJ=>?_) (λ{x l' lo1 H1 P} J kk=>?_) l hi (.mk i0 (.app _ _) (bC _ _) (λ_ h=>ba h fg) rfl (λx hx=>hx) λ_ h=>ba h fg)⟩
 ·cases J with
  |mk i hx h hd t hr hf=>exact hx
 ·cases J with
  |mk i hx h hd t hr hf=>exact k hx h (λd hd'=>(hd d hd').1) (by exact rwR t ((cw _).symm)) hf
 ·cases J with
  | @mk done i hx h hd t hr hf=>
   refine hs x (hr x jq) i hx λ{lo' H2 r} i' x2 h2 fr=>Lf.mk (gN (x2 _ _ h)) ⟨?_,?_⟩
   ·rw[ay]
    have:=bg List.length t
    rw[am,ay,ay,ay]at this
    exact Y55 hl this
   ·refine kk (.mk i' ((hx.trans x2).set (aM H)) (rwL cz (aG (x2 _ _ h) _)) (hd_set hd x2 h2 (λq=>aE ((q▸fr).symm.trans h))) ?_ (λq hq=>hr q (gh _ hq)) λd hd'=>(ij.mp hd').elim (hf d) λhd'=>by exact rwL (cy.mp hd') (hx.no fr))
    ·rw[cz,dz];exact t
def off(l:ac (Str×V))(hid:ac Str):dj:=l.all λp=> !hid.contains p.1
theorem Fs.hide(F:Fs l lo)(h:off l hid=ag):Fs l (hide hid lo):=λx v e=>by
 have:=ie.mp h _ (mem_of_lookup e)
 show(if hid.contains x then none else lo x)=_
 cases c:hid.contains x with
 |true=>rw[show hid.contains (x,v).1=ag from c]at this;cases this
 |false=>exact F x v e
theorem Fs.up(F:Fs l lo)(h:off l [y]=ag):Fs l (upd lo y w):=λx v e=>by
 have:=ie.mp h _ (mem_of_lookup e)
 refine(Lo.ne λq=>?_).trans (F x v e)
 rw[show [y].contains (x,v).1=ag from by exact rwL (show (x,v).1=y from q) (jt.mpr jq)]at this
 cases this
theorem Fs.re(F:Fs l lo)(m:ac (Str×V))(h:m.map (λp=>l.lookup p.1)=m.map λp=>aa p.2):Fs m lo:=λx v e=>F x v (List.map_inj_left.mp h _ (mem_of_lookup e))
theorem iR1_i(b: -1000000<z/\z<1000000)(he:Evv E lo H (.int z))(q:P (0,z.toNat,1) H):iR (aK dF (esC E esN)) lo H P:=by
 refine he _ (b8 (rng1_i (Lf.mk rfl ⟨?_,?_⟩)))
 ·delta rOk
  rw[ao b.1,ao b.2];rfl
 ·show P (0,(z-0).toNat,1) H
  rw[Int.sub_zero];exact q
theorem lB(hx:lo x=aa (.ref r))(h:lst H (.ref r)=aa vs)(hl:vs.length<100000):Evv (aK cM (esC (eN x) esN)) lo H (.int vs.length):=λQ q=>lenN_i hx h hl q
theorem w5:b5 (.int x) (.int y) H=aa (.int (x-y),H):=rfl
def appK(r:Nat)(lo:Lo)(K:SK):EK:=λv H2=>Lf (H2[r]?.bind MO.own) λvs=>vs.length<1000000/\K .next lo (H2.set r (.list (vs++[v])))
theorem sT(hx:lo x=aa (.ref r))(h:H[r]? =aa (.list vs))(q:g lo H (appK r lo K)):aZ (cV (eN x) g) lo H K:=kch (B:=Lf (lo x) λv=>Lf v.rf λi=>(∃ vs,H[i]? =aa (.list vs))/\g lo H (appK i lo K)) ⋯ (Lf.mk hx (Lf.mk rfl ⟨⟨_,h⟩,q⟩))
theorem sU(h:H[r]? =aa (.list vs))(hl:vs.length<1000000)(q:K .next lo (H.set r (.list (vs++[v])))):appK r lo K v H:=Lf.mk (gN h) ⟨hl,q⟩
theorem qY{a b:Int}(q:Q (.rng a b 1) H):dF [.int a,.int b] H Q:=kch ⋯ q
theorem min_e(q:Q (.int (min x y)) H):lJ [.int x,.int y] H Q:=kch ⋯ q
theorem uZ(h:f lo H λv H1=>Lp (mkL [v] H1) Q):b9 (esC f esN) lo H Q:=h
theorem rD(q:Q (.ref H.length) (H++[.list [v]])):Lp (mkL [v] H) Q:=Lp.mk (by exact aw (show 1<1000000 by decide)) q
theorem yO:aS id (.int x) (.int y) H=aa (.bool (decide (x=y)),H):=by kernel_rfl
theorem gK(h:f lo H λb H1=>bif b then g lo H1 P else P af H1):aX f g lo H P:=h
theorem fD(h:f lo H λv H1=>Lf (tr v H1) λb=>P b H1):tE f lo H P:=h
theorem tk_i{b:dj}(h:P b H):tK b lo H P:=h
theorem aAs(h:f lo H λb H1=>P (!b) H1):mD f lo H P:=h
theorem idxm1{α:Type}(vs:ac α)(v:α):PySem.seqIndex? (-1) (vs++[v]).length=aa vs.length:=by
 rw[seqIndex?_neg_one (by rw[am];exact xv _),am];rfl
theorem lt_e:zN (λx y=>decide (x<y)) (.int x) (.int y) H=aa (.bool (decide (x<y)),H):=rfl
theorem yS(h:t lo H λb H1=>bif b then f lo H1 Q else g lo H1 Q):eIf t f g lo H Q:=h
theorem gt_e:zN (λx y=>decide (x>y)) (.int x) (.int y) H=aa (.bool (decide (x>y)),H):=rfl
def lsV:ae Int->V |none=>.none |some m=>.int m
def fC(r:Nat)(q:ae Int):ac (Str×V):=[("rows",.ref r),("least",lsV q)]
def cutT(ix:EF):TF:=(aX (tE (aA (oIs not) (eN "least") (eK .none))) (aX (tE (aA (aS not) (eN "rows") (b9 esN))) (aX (tE (aA (aS id) (aA aO (aA aO (eN "rows") ix) (eK (.int 0))) (eK (.str "equal")))) (tK ag))))
theorem no_at(q:ae Int):oIs not (lsV q) .none H=aa (.bool q.isSome,H):=by cases q<;>rfl
theorem lA(q:Q (.ref H.length) (H++[.list []])):b9 esN lo H Q:=kch ⋯ q
theorem cutT_i(hix:∀ {lo H},Evv ix lo H (.int z))(F:Fs (fC r q) lo)(h:H[r]? =aa (.list (l.map Op.v)))(zb: -1000000<z/\z<1000000)(hz:l≠ []->iu z l.length=aa j/\j<l.length)(k0:q=none->P af H)(k1:l= []->P af (H++[.list []]))(k2:∀ o,l[j]? =aa o->q≠none->P o.tag.isEq (H++[.list []])):cutT ix lo H P:=by
 refine gK (fD (bA (aY (F _ (lsV q) ⋯) (cL (Lp.mk (no_at q) (Lf.mk rfl ?_))))))
 cases q with
 |none=>exact aR (k0 rfl)
 |some m=>
  refine aW (gK (fD (bA (aY (F _ (.ref r) ⋯) (lA (eqE_i Op.v dO (aT (Hx.app _ _ _ _ h)) (kD H []) (λo _=>qI o) (λo _=>qJ o) ?_))))))
  cases l with
  |nil=>exact aR (k1 rfl)
  |cons o' l'=>
   obtain⟨e,jl⟩:=hz (gj _ _)
   have ho:=az jl
   revert ho
   generalize (o'::l')[j]=o
   refine λho=>(aW (gK (fD (bA (bA (bA (aY (F _ (.ref r) ⋯) (hix _ (Lp.mk (hO (Hx.app _ _ _ _ h) zb (by rw[ay];exact e) (by rw[gp,ho];rfl)) (cL (qS (cL ?_))))))))))))
   refine mL ?_
   cases e2:o.tag.isEq with
   |false=>exact aR (rwR e2 (k2 o ho nofun))
   |true=>exact aW (rwR e2 (k2 o ho nofun))
def oTc:AF:=(cG 5 (asC (aN "tag") (asC (aN "i") (asC (aN "iend") (asC (aN "j") (asC (aN "jend") asN))))))
def fOc(o:Op):ac (Str×V):=[("tag",.str o.tag.s),("i",.int o.i1),("iend",.int o.i2),("j",.int o.j1),("jend",.int o.j2)]
theorem oTc_i(F:Fs (fC r q) lo)(k:∀ {lo'},Fs (fC r q) lo'->Fs (fOc o) lo'->R lo' H):oTc o.v lo H R:=by
 refine kch (B:=(5=5/\R (upd (upd (upd (upd (upd lo "tag" (.str o.tag.s)) "i" (.int o.i1)) "iend" (.int o.i2)) "j" (.int o.j1)) "jend" (.int o.j2)) H)) ⋯ ⟨rfl,?_⟩
 have F1:=((((F.cons "tag" (.str o.tag.s)).cons "i" (.int o.i1)).cons "iend" (.int o.i2)).cons "j" (.int o.j1)).cons "jend" (.int o.j2)
 exact k (F1.re _ ⋯) (F1.re _ ⋯)
def cutS(ix tp:EF):SF:=(sIf (cutT ix) (aB (bX (aA aO (eN "rows") ix) oTc) (aB (bF "size" szE) (aB (bX tp (fY (eN "rows") ix)) (sK .next)))) (sK .next))
def fS(o:Op)(m:Int):ac (Str×V):=("size",.int (min m (o.i2-o.i1)))::fOc o
theorem oY(h:f lo H λv H1=>g v lo H1 λlo' H2=>K .next lo' H2):bX f g lo H K:=h
theorem aEn{w:Op->Int->Op}(hix:∀ {lo H},Evv ix lo H (.int z))(htp:∀ {lo H o m Q},Fs (fS o m) lo->Q (w o m).v H->tp lo H Q)(F:Fs (fC r q) lo)(x:Hx B H)(br:B[r]? =none)(h:H[r]? =aa (.list (l.map Op.v)))(zb: -1000000<z/\z<1000000)(hz:l≠ []->iu z l.length=aa j/\j<l.length)(e0:q=none->l'=l)(e1:l= []->l'=l)(e2:∀ o m,q=aa m->l[j]? =aa o->l'=bif o.tag.isEq then l.set j (w o m) else l)(k:∀ {lo' H'},Fs (fC r q) lo'->Hx B H'->H'[r]? =aa (.list (l'.map Op.v))->K .next lo' H'):cutS ix tp lo H K:=by
 have x1:Hx B (H++[MO.list []]):=x.trans (.app _ _)
 have h1:=Hx.app H [MO.list []] _ _ h
 refine eM (cutT_i hix F h zb hz (λe=>aR (k F x (e0 e▸h))) (λe=>aR (k F x1 (e1 e▸h1))) λo ho hq=>?_)
 cases q with
 |none=>exact ba rfl hq
 |some m=>
  have e3:=e2 o m rfl ho
  cases et:o.tag.isEq with
  |false=>exact aR (k F x1 ((et▸e3)▸h1))
  |true=>
   rw[et]at e3
   have ne:l≠ []:=λe=>by exact aE (e▸ho)
   refine aW (aI (oY (bA (aY (F _ (.ref r) ⋯) (hix _ (Lp.mk (hO h1 zb (by rw[ay];exact ((hz ne).1)) (by rw[gp,ho];rfl)) (oTc_i F λ{lo1} F1 F2=>aH (aI (d0 (bV (aP ?_)))))))))))
   refine aY (F1 _ (.int m) ⋯) (aP (bA (aY (F2 _ (.int o.i2) ⋯) (aY (F2 _ (.int o.i1) ⋯) (aA7 (b8 (min_e (aH ?_))))))))
   have F4:Fs (fC r (aa m)) (upd lo1 "size" (.int (min m (o.i2-o.i1)))):=(F1.cons "size" (.int (min m (o.i2-o.i1)))).re _ ⋯
   refine aI (oY (htp (F2.cons "size" _) (show fY (eN "rows") ix (w o m).v _ _ _ from aY (F4 _ (.ref r) ⋯) (hix _ (Lf.mk (qW h1 zb (by rw[ay];exact ((hz ne).1))) (aH (k F4 (x1.set br) ?_)))))))
   rw[e3,dy,List.map_set]
   exact aG h1 _
theorem tl_tp(F:Fs (fS o m) lo)(q:Q (Op.mk o.tag (o.i2-min m (o.i2-o.i1)) o.i2 (o.j2-min m (o.i2-o.i1)) o.j2).v H):(bD (esC (eN "tag") (esC (aA b5 (eN "iend") (eN "size")) (esC (eN "iend") (esC (aA b5 (eN "jend") (eN "size")) (esC (eN "jend") esN)))))) lo H Q:=by
 have g1:=F ("size" :Str) (.int (min m (o.i2-o.i1))) ⋯
 have g3:=F ("iend" :Str) (.int o.i2) ⋯
 have g4:=F ("jend" :Str) (.int o.j2) ⋯
 exact oO (aP (aY (F ("tag" :Str) (.str o.tag.s) ⋯) (aP (bA (aY g3 (aY g1 (aA7 (aP (aY g3 (aP (bA (aY g4 (aY g1 (aA7 (aP (aY g4 (b8 ⟨(by decide:5<100),q⟩)))))))))))))))))
theorem hd_tp(F:Fs (fS o m) lo)(q:Q (Op.mk o.tag o.i1 (o.i1+min m (o.i2-o.i1)) o.j1 (o.j1+min m (o.i2-o.i1))).v H):(bD (esC (eN "tag") (esC (eN "i") (esC (aA aL (eN "i") (eN "size")) (esC (eN "j") (esC (aA aL (eN "j") (eN "size")) esN)))))) lo H Q:=by
 have g1:=F ("size" :Str) (.int (min m (o.i2-o.i1))) ⋯
 have g3:=F ("i" :Str) (.int o.i1) ⋯
 have g4:=F ("j" :Str) (.int o.j1) ⋯
 exact oO (aP (aY (F ("tag" :Str) (.str o.tag.s) ⋯) (aP (aY g3 (aP (bA (aY g3 (aY g1 (add_i (aP (aY g4 (aP (bA (aY g4 (aY g1 (add_i (b8 ⟨(by decide:5<100),q⟩)))))))))))))))))
def cutA:ae Int->ac Op->ac Op |none,l=>l |some m,l=>kH m l
def cutZ:ae Int->ac Op->ac Op |none,l=>l |some m,l=>gO m l
theorem aEm(q:ae Int)(l:ac Op):cutZ q (cutA q l)=cW q l:=by
 cases q with
 |none=>rfl
 |some m=>cases l<;>rfl
theorem aEo(hb:Bal l):Bal (cutA q l):=by
 cases q with
 |none=>exact hb
 |some m=>
  cases l with
  |nil=>exact hb
  |cons o l=>
   intro o' ho
   have ho:=ho
   rcases ez.mp ho with rfl |ho
   ·exact qR (hb o (.head _))
   ·exact hb o' (.tail _ ho)
theorem wI(h:H[r]? =aa (.list (l.map Op.v)))(hl:l.length<100000)(hb:Bal l)(k:∀ {H' r'},Hx H H'->H'[r']? =aa (.list ((cW q l).map Op.v))->H[r']? =none->Q (.ref r') H'):dK X [.ref r,lsV q] H Q:=by
 refine⟨rfl,?_⟩
 have F:Fs (fC r q) (loB ["rows","least"] [.ref r,lsV q] lo0):=((Fs.cons (l:=[]) nofun "rows" (.ref r)).cons "least" (lsV q)).re _ ⋯
 show lH X (loB ["rows","least"] [.ref r,lsV q] lo0) H (kY Q)
 revert F
 generalize loB ["rows","least"] [.ref r,lsV q] lo0=lo
 refine λF=>(aI (d0 (bV (aP (aY (F _ (.ref r) ⋯) (b8 (xR h (by rw[ay];exact ko hl (by decide)) (aH (aI (show cutS (eK (.int 0)) _ _ _ _ from aEn (j:=0) (l':=cutA q l) (λ{lo H}=>Evv.k) (λ{lo H o m Q} F q=>tl_tp F q) ((F.cons "rows" (.ref H.length)).re _ ⋯:Fs (fC H.length q) (upd lo "rows" (.ref H.length))) (.app _ _) (aM H) (bC _ _) (by decide) (λne=>?_) (λe=>by rw[e];rfl) (λe=>by rw[e];cases q<;>rfl) (λo m e ho=>?_) λ{lo2 H2} F2 x2 h2=>aH ?_))))))))))
 ·cases l with
  |nil=>exact ba rfl ne
  |cons o l=>exact⟨seq_0 _,xv _⟩
 ·refine rwL e ?_
  cases l with
  |nil=>exact aE ho
  |cons o' l=>
   cases ho
   show kH m (o::l)=_
   rw[lG]
   cases et:o.tag.isEq with
   |false=>rfl
   |true=>rw[tl_law (hb o (.head _)) et];rfl
 ·have lb:Bal (cutA q l):=aEo hb
  have e:=aEm q l
  revert lb e h2
  generalize cutA q l=l2
  refine λh2 lb e=>(aI (show cutS (gQ (eK (.int 1))) _ _ _ _ from aEn (j:=l2.length-1) (l':=cutZ q l2) (λ{lo H}=>λQ q=>vW q) (λ{lo H o m Q} F q=>hd_tp F q) F2 x2 (aM H) h2 (by decide) (λne=>?_) (λe=>by rw[e];rfl) (λe=>by rw[e];cases q<;>rfl) (λo m e ho=>?_) λ{lo3 H3} F3 x3 h3=>aH ?_))
  ·rcases kT l2 with rfl |⟨L,z,rfl⟩
   ·exact ba rfl ne
   ·exact⟨by rw[idxm1,am];rfl,by exact rwL am (ni _)⟩
  ·refine rwL e ?_
   rcases kT l2 with rfl |⟨L,z,rfl⟩
   ·exact aE ho
   ·rw[am,bo,Nat.add_sub_cancel,dg (ce _),qe]at ho
    cases ho
    show gO m (L++[o])=_
    rw[jE,am,bo,Nat.add_sub_cancel,List.set_append_right _ _ (ce _),qe]
    cases et:o.tag.isEq with
    |false=>rfl
    |true=>rw[hd_law (lb o (List.mem_append_right _ (.head _))) et];rfl
  ·exact aI (show dX (eN "rows") _ _ _ from aY (F3 _ (.ref H.length) ⋯) (k x3 (rwR e h3) (aM H)))
theorem at_k2{l:ac Op}(h:H[r]? =aa (.list (l.map Op.v)))(ho:l[k]? =aa o)(hl:l.length<100000):aO (.ref r) (nv k) H=aa (o.v,H):=by
 have kl:=(List.getElem?_eq_some_iff.mp ho).1
 exact hO h ⟨Y53,Y82 hl kl⟩ (cP (cj k) (by rw[ay];exact Y66 kl)) (by rw[ii,gp,ho];rfl)
def fGr(r:Nat)(n:Int):ac (Str×V):=[("rows",.ref r),("n",.int n)]
theorem bigT_i{l:ac Op}(F:Fs (fGr r n) lo)(hk:lo "k" =aa (nv k))(h:H[r]? =aa (.list (l.map Op.v)))(ho:l[k]? =aa o)(hl:l.length<100000)(q:P (bE n o) H):bigT lo H P:=by
 have ix:∀ {z:Int}{w:V},aO o.v (.int z) H=aa (w,H)->Evv (aA aO (aA aO (eN "rows") (eN "k")) (eK (.int z))) lo H w:=λq=>.bin (.bin (.n (F _ (.ref r) ⋯)) (.n hk) (at_k2 h ho hl)) .k q
 refine gK (gK (fD (bA (ix rfl _ (cL (mL ?_))))))
 unfold bE at q
 cases et:o.tag.isEq with
 |false=>rw[et]at q;exact aR (aR q)
 |true=>
  rw[et,Bool.true_and]at q
  refine aW (gK (fD (Evv.bin (.bin (ix rfl) (ix rfl) w5) (.bin .k (.n (F _ (.int n) ⋯)) (mul_e (by decide))) (gt_e) _ (Lf.mk rfl ?_))))
  rw[show (2*n=n+n) by exact Y81]
  cases e2:decide (o.i2-o.i1>n+n) with
  |false=>exact aR (aR (rwR e2 q))
  |true=>rw[e2]at q;exact q
def edC(C:Cx):EF:=(eX (mF C) [".0","k"] (iR (eN "inner")) (aN "k") bigT (eY (eN "k")))
def edI(n:Int)(l:ac Op):ac Nat:=0::(eds n 1 (l.drop 1)++[l.length-1])
theorem yF(g:Nat->ac Nat)(l:ac Nat):l.flatMap (λx=>(g x).map nv)=(l.flatMap g).map nv:=by
 induction l with
 |nil=>rfl
 |cons x l ih=>rw[lz,lz,cz,ih]
theorem edC_i{l:ac Op}(F:Fs (fGr r n) lo)(hi:lo "inner" =aa (.rng 1 ((l.length:Int)-1) 1))(h:H[r]? =aa (.list (l.map Op.v)))(hl:l.length<1000)(k:∀ {H'},Hx H H'->H'[H.length]? =aa (.list ((eds n 1 (l.drop 1)).map nv))->Q (.ref H.length) H'):edC C lo H Q:=by
 have e1:=uX (n:=n) (l.drop 1) 1
 have el:=kK (n:=n) (l.drop 1) 1
 rw[jg]at e1 el
 refine u7 (λk:Nat=>V.int (1+(k:Int))) (λj=>(bif ((l.drop 1)[j]?.elim af (bE n)) then [1+j] else []).map nv) (Fs (fGr r n)) (List.range (l.length-1-1)) (λ{P} q=>aY hi (Lf.mk rfl ⟨?_,?_⟩)) (by rw[<-kZ];exact rQ _ _) (F.hide ⋯) ?_ (λj hj=>⟨λ{lo1 H1 acc P} F1 x ha hal kk=>?_⟩) λ{H'} x h'=>k x (by rw[h',yF,e1])
 ·delta rOk
  rewrite [ao (show(l.length:Int)-1<1000000 by exact Y80 hl),ao (show-1000000<(l.length:Int)-1 by exact Y61)];rfl
 ·have:tP 1 ((l.length:Int)-1) 1=l.length-1-1:=by
   exact Y79
  exact(rwL this q:P (1,tP 1 ((l.length:Int)-1) 1,1) H)
 ·rw[yF,ay,e1]
  exact Y78 hl el
 ·have hj:=List.mem_range.mp hj
  have ho:=az (Y77 hj)
  have ho':(l.drop 1)[j]? =aa (l[1+j]'(Y77 hj)):=by exact rwL List.getElem?_drop ho
  revert ho ho'
  generalize (l[1+j]'(Y77 hj))=o
  intro ho ho'
  rw[ho']at kk hal
  have F2:Fs (fGr r n) (upd lo1 "k" (nv (1+j))):=F1.up ⋯
  have e:V.int (1+(j:Int))=nv (1+j):=by show V.int _=V.int ((1+j:Nat):Int);rw[Int.natCast_add];rfl
  refine rwL e (bigT_i F2 cH (x _ _ h) ho (ko hl (by decide)) ?_)
  have kk:∀ {lo' H'},Fs (fGr r n) lo'->Hx H H'->H'[H.length]? =aa (.list (acc++(bif bE n o then [1+j] else []).map nv))->P lo' H':=kk
  cases eb:bE n o with
  |false=>
   rw[eb]at kk
   exact aR (kk F2 x (by exact rwL (show acc++(bif af then [1+j] else []).map nv=acc from cw _) ha))
  |true=>
   rw[eb]at kk
   exact aW (show eN "k" (upd lo1 "k" (nv (1+j))) H1 _ from aY cH (Lf.mk (gN ha) ⟨du (ly _ _) hal,kk F2 (x.set (aM H)) (aG ha _)⟩))
theorem pk_two{i j:Nat}(h1:i<=j+1)(h2:j+1<=l.length):pk l (aa (i:Int)) (aa ((j:Int)+1)) none=(l.drop i).take (j+1-i):=by
 rw[aBv]
 show(l.drop (wv l.length (i:Int))).take (wv l.length ((j:Int)+1)-wv l.length (i:Int))=_
 rw[((yX (cj i) (Y76 h1 h2)).trans (ii i)),((yX Y75 (Y74 h2)).trans (ii (j+1)))]
theorem Bal.sub(h:Bal l)(s:m.Sublist l):Bal m:=λo ho=>h o (s.subset ho)
theorem qV(l:ac Op)(es:ac Nat)(k:Nat):(slK l es k).Sublist l:=(List.take_sublist _ _).trans (List.drop_sublist _ _)
theorem edI_at(hk:k+1<(edI n l).length)(ne:l≠ []):∃ i j,(edI n l)[k]? =aa i/\(edI n l)[k+1]? =aa j/\i<=j+1/\j+1<=l.length:=by
 have l0:=List.length_pos_iff.mpr ne
 have all:∀ e∈edI n l,e+1<=l.length:=λe he=>by
  rcases ez.mp he with rfl |he
  ·exact l0
  ·rcases ij.mp he with he |he
   ·exact Y73 (rwR jg (sM (l.drop 1) 1 e he))
   ·cases cy.mp he
    exact Y72 l0
 have up:∀ (R:ac Op) (k:Nat),(eds n k R).Pairwise (·<=·):=λR=>by
  induction R with
  |nil=>exact λ_=>.nil
  |cons x R ih=>
   intro k
   cases R with
   |nil=>exact .nil
   |cons y R=>
    rw[uY]
    cases bE n x with
    |true=>exact .cons (λe he=>by exact Y71 ((sM _ _ e he).1)) (ih (k+1))
    |false=>exact ih (k+1)
 have pw:(edI n l).Pairwise (·<=·):=by
  refine .cons (λe _=>gw e) (List.pairwise_append.mpr ⟨up _ _,List.pairwise_singleton _ _,λa ha b hb=>?_⟩)
  cases cy.mp hb
  exact Y70 (rwR jg (sM (l.drop 1) 1 a ha))
 refine⟨(edI n l)[k]'(Y65 hk),(edI n l)[k+1]'hk,az _,az _,?_,all _ (List.getElem_mem _)⟩
 exact Y69 (List.pairwise_iff_getElem.mp pw k (k+1) (Y65 hk) hk (ni k))
def edV(n:Int)(l:ac Op):ac V:=.int 0::((eds n 1 (l.drop 1)).map nv++[.int ((l.length:Int)-1)])
theorem yP(n:Int)(l:ac Op):(edV n l).length=(edI n l).length:=by
 show((eds n 1 (l.drop 1)).map nv++[V.int ((l.length:Int)-1)]).length+1=(eds n 1 (l.drop 1)++[l.length-1]).length+1
 rw[am,am,ay];rfl
theorem sN(n:Int)(l:ac Op):(edI n l).length=(eds n 1 (l.drop 1)).length+1+1:=by
 show(eds n 1 (l.drop 1)++[l.length-1]).length+1=_
 rw[am,bo]
theorem aEe(ne:l≠ []):edV n l=(edI n l).map nv:=by
 show V.int 0::((eds n 1 (l.drop 1)).map nv++[.int ((l.length:Int)-1)])=nv 0::(eds n 1 (l.drop 1)++[l.length-1]).map nv
 rw[cz]
 show _=nv 0::(_++[V.int ((l.length-1:Nat):Int)])
 rw[show ((l.length-1:Nat):Int)=(l.length:Int)-1 by exact Y68 (List.length_pos_iff.mpr ne)];rfl
theorem slE_i(hr:lo "rows" =aa (.ref r))(he:lo "edges" =aa (.ref re))(hk:lo "k" =aa (nv k))(h:H[r]? =aa (.list (l.map Op.v)))(hE:H[re]? =aa (.list (edV n l)))(hl:l.length<1000)(kl:k+1<(edI n l).length)(q:Q (.ref H.length) (H++[.list ((slK l (edI n l) k).map Op.v)])):slE lo H Q:=by
 have vb:(edI n l).length<=1002:=by
  rw[sN]
  exact Y63 hl (rwR jg (kK (n:=n) (l.drop 1) 1))
 have pick:∀ {k:Nat}{z:Int},k<(edI n l).length->(edV n l)[k]? =aa (.int z)->aO (.ref re) (nv k) H=aa (.int z,H):=λ{k z} kl e=>
  hO hE ⟨Y53,Y67 vb kl⟩ (cP (cj k) (by exact rwL (yP n l) (Y66 kl))) (by rw[ii];exact e)
 have fin:∀ {i j:Int},(edV n l)[k]? =aa (.int i)->(edV n l)[k+1]? =aa (.int j)->pk l (aa i) (aa (j+1)) none=slK l (edI n l) k->slE lo H Q:=λ{i j} a b c=>by
  refine aEg (aY hr (Evv.bin (.n he) (.n hk) (pick (Y65 kl) a) _ (Evv.bin (.bin (.n he) (.bin (.n hk) .k rfl) (pick kl b)) .k add_e _ (cL (Lf.mk rfl (Lf.mk rfl (Lf.mk rfl (slc_i (aT h) (by rw[ay];exact ko hl (by decide)) nofun ?_))))))))
  rw[vS,c];exact q
 by_cases ne:l= []
 ·subst ne
  have:k=0:=by
   exact Y64 kl
  subst this
  exact fin rfl rfl rfl
 ·refine xEEAAA (edI_at kl ne) λi j h1 h2 h3 h4=>?_
  refine fin (by rw[aEe ne,gp,h1];rfl) (by rw[aEe ne,gp,h2];rfl) ?_
  rw[pk_two h3 h4]
  delta slK
  refine rwL h1 (rwL h2 ?_);rfl
def opV(g:ac Op):ac V:=g.map Op.v
theorem gr3_i(F:Fs (("edges",.ref re)::fGr r n) lo)(h:H[r]? =aa (.list (l.map Op.v)))(hE:H[re]? =aa (.list (edV n l)))(hl:l.length<1000)(hb:Bal l)(k:∀ {H':MH}{ps:ac (Nat×ac Op)},Hx H H'->H'[H.length]? =aa (.list (ps.map rv))->HB opV H' ps->ps.map Prod.snd=(List.range ((edI n l).length-1)).map (λk=>aV n (slK l (edI n l) k))->(∀ p∈ps,H[p.1]? =none)->Q (.ref H.length) H'):(eX (mF C) [".0","k"] (iR (aK dF (esC (aA b5 (aK cM (esC (eN "edges") esN)) (eK (.int 1))) esN))) (aN "k") (tK ag) (eY (aK (dK X) (esC slE (esC (eN "n") esN))))) lo H Q:=by
 have vb:(edI n l).length<=1002:=by
  rw[sN]
  exact Y63 hl (rwR jg (kK (n:=n) (l.drop 1) 1))
 refine aEr opV nv (λk=>aV n (slK l (edI n l) k)) (Fs (("edges",.ref re)::fGr r n)) (List.range ((edI n l).length-1)) (by exact rwL uf (Y62 vb)) (λ{P} q=>?_) (by rw[<-aBt];exact rQ _ _) (F.hide ⋯) (λj hj {lo1 H1 P} F1 x kk=>?_) λ{H' ps} x h' b e f=>k x h' b e f
 ·refine iR1_i ⟨Y61,Y60 vb⟩ (.bin (lB (F _ (.ref re) ⋯) (aT hE) (by exact rwL (yP n l) (Y59 vb))) .k (rwR (yP n l) w5)) ?_
  ·exact rwL (show (((edI n l).length:Int)-1).toNat=(edI n l).length-1 by exact Y58) q
 ·have F2:Fs (("edges",.ref re)::fGr r n) (upd lo1 "k" (nv j)):=F1.up ⋯
  refine aAo (bV (aP (slE_i (F2 _ (.ref r) ⋯) (F2 _ (.ref re) ⋯) cH (x _ _ h) (x _ _ hE) hl (Y57 (List.mem_range.mp hj)) (aP (aY (F2 _ (.int n) ⋯) (b8 ?_))))))
  have x1:=Hx.app H1 [MO.list ((slK l (edI n l) j).map Op.v)]
  exact wI X (q:=aa n) (bC _ _) (du (qV l _ j).length_le (ko hl (by decide))) (hb.sub (qV l _ j)) λ{H2 r2} x2 h2 f2=>kk F2 (x1.trans x2) h2 (x1.no f2)
def rowC(C:Cx):EF:=(eX (cC C) [".0","row"] (iL (eN "group")) (aN "row") (aX (tE (aA (aS not) (aA aO (eN "row") (eK (.int 0))) (eK (.str "equal")))) (tK ag)) (eY (eN "row")))
def chgE(g:ac Op):ac Op:=g.filter λo=> !isE o
theorem outC_f(g:ac Op):g.flatMap vU=(chgE g).map Op.v:=by
 delta chgE
 induction g with
 |nil=>rfl
 |cons o g ih=>
  rw[lz,ih]
  delta vU
  show(bif !isE o then [o.v] else [])++_=_
  cases e:isE o with
  |true=>rw[List.filter_cons_of_neg (by rw[e];nofun)];rfl
  |false=>rw[List.filter_cons_of_pos (by rw[e];rfl)];rfl
theorem aEv(g:ac Op):(!(chgE g).isEmpty)=eS g:=by
 unfold chgE eS
 induction g with
 |nil=>rfl
 |cons o g ih=>
  rw[jf,List.any_cons,<-ih]
  cases e:isE o with
  |true=>rw[List.filter_cons_of_neg (by rw[e];nofun)];rfl
  |false=>rw[List.filter_cons_of_pos (by rw[e];rfl)];rfl
theorem rowC_i(hn:lo "group" =aa (.ref r))(h:H[r]? =aa (.list (g.map Op.v)))(hl:g.length<100000)(k:∀ {H'},Hx H H'->H'[H.length]? =aa (.list ((chgE g).map Op.v))->Q (.ref H.length) H'):rowC C lo H Q:=by
 refine lI Op.v vU (λ_=>vx) g hn (aT h) trivial (Y88 hl (r7 outC_1 g)) (λo ho=>⟨λ{lo1 H1 acc P} _ x ha hal kk=>(wX (bA (bA (aY cH (cL (qS (cL (Lp.mk (by delta aS;rw[mQ];rfl) (Lf.mk rfl ?_)))))))))⟩) λ{H'} x h'=>k x (by rw[h',outC_f])
 unfold vU at kk hal
 cases e: !o.tag.isEq with
 |false=>
  exact aR (put0 x ha rfl trivial (e▸kk))
 |true=>
  rw[e]at kk hal
  exact aW (aY cH (put1 (aM H) x ha hal rfl trivial kk))
def grpC(C:Cx):EF:=(eX (cC C) [".0","group"] (iL (eN "groups")) (aN "group") (aX (tE (aA (aS not) (rowC C) (b9 esN))) (tK ag)) (eY (eN "group")))
theorem aAd(ps:ac (Nat×ac Op)):(ps.flatMap λp=>bif eS p.2 then [rv p] else [])=(ps.filter λp=>eS p.2).map rv:=by
 induction ps with
 |nil=>rfl
 |cons p ps ih=>
  rw[lz,ih]
  cases e:eS p.2 with
  |true=>rw[List.filter_cons_of_pos (p:=λp:Nat×ac Op=>eS p.2) e];rfl
  |false=>rw[List.filter_cons_of_neg (by rw[e];nofun)];rfl
theorem grpC_i(hn:lo "groups" =aa (.ref r))(h:H[r]? =aa (.list (ps.map rv)))(hb:HB opV H ps)(hl:ps.length<10000)(gl:∀ p∈ps,p.2.length<100000)(k:∀ {H'},Hx H H'->H'[H.length]? =aa (.list ((ps.filter λp=>eS p.2).map rv))->Q (.ref H.length) H'):grpC C lo H Q:=by
 refine lI rv (λp=>bif eS p.2 then [rv p] else []) (λ_=>vx) ps hn (aT h) trivial (Y87 hl (r7 (λp=>by cases eS p.2 with |true=>exact ce 1 |false=>exact gw 1) ps)) (λp hp=>⟨λ{lo1 H1 acc P} _ x ha hal kk=>(wX (bA (rowC_i cH (x _ _ (hb p hp)) (gl p hp) λ{H2} x2 h2=>lA ?_)))⟩) λ{H'} x h'=>k x (by rw[h',aAd])
 have x3:=x2.trans (Hx.app H2 [MO.list []])
 refine eqE_i Op.v dO (aT (Hx.app H2 [MO.list []] _ _ h2)) (kD H2 []) (λo _=>qI o) (λo _=>qJ o) ?_
 rw[aEv]
 cases e:eS p.2 with
 |false=>
  exact aR (put0 (x.trans x3) (x3 _ _ ha) rfl trivial (e▸kk))
 |true=>
  rw[e]at kk hal
  exact aW (aY cH (put1 (aM H) (x.trans x3) (x3 _ _ ha) hal rfl trivial kk))
theorem v8(n0:0<=n)(h:H[r]? =aa (.list (l.map Op.v)))(hl:l.length<1000)(hb:Bal l)(ha:alt (l.map isE))(k:∀ {H' r'}{ps:ac (Nat×ac Op)},Hx H H'->H'[r']? =aa (.list (ps.map rv))->HB opV H' ps->ps.map Prod.snd=groups n l->H[r']? =none->(∀ p∈ps,H[p.1]? =none)->Q (.ref r') H'):fJ X [.ref r,.int n] H Q:=by
 refine⟨rfl,?_⟩
 have F:Fs (fGr r n) (loB ["rows","n"] [.ref r,.int n] lo0):=((Fs.cons (l:=[]) nofun "rows" (.ref r)).cons "n" (.int n)).re _ ⋯
 refine(?_:hZ X (loB ["rows","n"] [.ref r,.int n] lo0) H (kY Q))
 revert F
 generalize loB ["rows","n"] [.ref r,.int n] lo0=lo
 intro F
 have hll:(l.map Op.v).length=l.length:=ay ..
 refine aI (d0 (bV (aP (cL (aP (Evv.bin (lB (F _ (.ref r) ⋯) (aT h) (by exact rwL hll (Y85 hl))) .k w5 _ (b8 (qY (aH ?_)))))))))
 rw[hll]
 have F1:=F.cons "inner" (.rng 1 ((l.length:Int)-1) 1)
 generalize upd lo "inner" (.rng 1 ((l.length:Int)-1) 1)=lo at F1
 refine aI (d0 (show edC C lo H _ from edC_i (F1.re (fGr r n) ⋯) (F1 _ (.rng 1 ((l.length:Int)-1) 1) ⋯) h hl λ{H2} x2 h2=>aH ?_))
 have F2:=F1.cons "edges" (.ref H.length)
 generalize upd lo "edges" (.ref H.length)=lo at F2
 have el:=kK (n:=n) (l.drop 1) 1
 rw[jg]at el
 refine aI (d0 (bA (bA (uZ (cL (rD (aY (F2 _ (.ref H.length) ⋯) (q6 (bC _ _) (Hx.app H2 _ _ _ h2) (by rw[ay,bo];exact Y86 hl el) ?_))))))))
 have x3:=Hx.app H2 [MO.list [V.int 0]]
 have x4:=Hx.app (H2++[MO.list [V.int 0]]) [MO.list ([V.int 0]++(eds n 1 (l.drop 1)).map nv)]
 have h4:=bC (H2++[MO.list [V.int 0]]) (MO.list ([V.int 0]++(eds n 1 (l.drop 1)).map nv))
 have x24:=(x2.trans x3).trans x4
 revert x24 h4
 generalize (H2++[MO.list [V.int 0]])++[MO.list ([V.int 0]++(eds n 1 (l.drop 1)).map nv)]=H4
 generalize (H2++[MO.list [V.int 0]]).length=r4
 refine λh4 x24=>(uZ (Evv.bin (lB (F2 _ (.ref r) ⋯) (aT (x24 _ _ h)) (by exact rwL hll (Y85 hl))) .k w5 _ (rD (q6 (Hx.app H4 _ _ _ h4) (bC _ _) (by rw[am,ay,bo,bo];exact Y84 hl el) (aH ?_)))))
 rw[hll]
 have h6:=bC (H4++[MO.list [V.int ((l.length:Int)-1)]]) (MO.list ([V.int 0]++(eds n 1 (l.drop 1)).map nv++[V.int ((l.length:Int)-1)]))
 have x:=(x24.trans (Hx.app H4 [MO.list [V.int ((l.length:Int)-1)]])).trans (Hx.app (H4++[MO.list [V.int ((l.length:Int)-1)]]) [MO.list ([V.int 0]++(eds n 1 (l.drop 1)).map nv++[V.int ((l.length:Int)-1)])])
 revert x h6
 generalize (H4++[MO.list [V.int ((l.length:Int)-1)]])++[MO.list ([V.int 0]++(eds n 1 (l.drop 1)).map nv++[V.int ((l.length:Int)-1)])]=H6
 generalize (H4++[MO.list [V.int ((l.length:Int)-1)]]).length=r6
 intro h6 x
 have F3:=F2.cons "edges" (.ref r6)
 generalize upd lo "edges" (.ref r6)=lo at F3
 refine aI (d0 (gr3_i X (F3.re ((("edges" :Str),.ref r6)::fGr r n) ⋯) (x _ _ h) h6 hl hb λ{H7 ps} x7 h7 b7 e7 f7=>aH ?_))
 have F4:=F3.cons "groups" (.ref H6.length)
 generalize upd lo "groups" (.ref H6.length)=lo at F4
 have pl:ps.length<=1001:=by
  have:=bg List.length e7
  rw[ay,ay,uf,sN]at this
  exact Y83 hl el this
 have gl:∀ p∈ps,p.2.length<100000:=λp hp=>by
  refine xEA (we.mp (e7▸List.mem_map_of_mem hp)) λj _ e=>?_
  rw[<-e,d5]
  exact du (qV l _ j).length_le (ko hl (by decide))
 refine aI (show dX (grpC C) _ _ _ from grpC_i (F4 _ (.ref H6.length) ⋯) h7 b7 (du pl (by decide)) gl λ{H8} x8 h8=>(k ((x.trans x7).trans x8) h8 (λp hp=>x8 _ _ (b7 p (tY.mp hp).1)) ?_ (x.no (x7.no (aM H7))) λp hp=>x.no (f7 p (tY.mp hp).1)))
 rw[<-aGs n0 ha]
 delta lawG
 refine rwL (show (0::(eds n 1 (l.drop 1)++[l.length-1]))=edI n l from rfl) (rwR e7 (rwL List.filter_map ?_));rfl
def IL(H:MH)(r:Nat)(l:ac Int):Prop:=H[r]? =aa (.list (l.map V.int))
def rI(a:Int)(n:Nat):ac Int:=(List.range n).map λk:Nat=>a+(k:Int)
theorem k4(a:Int)(n:Nat):(rI a n).length=n:=by delta rI;rw[ay,uf]
def Ei(B:MH)(f:EF)(lo:Lo)(l:ac Int):Prop:=∀ {H:MH}{Q:EK},Hx B H->(∀ {H' r},Hx H H'->IL H' r l->Q (.ref r) H')->f lo H Q
def lrE(a b:Int):EF:=(aK (bW (eR X.gc 6 X.gv) (λi=>i)) (esC (aK dF (esC (eK (.int a)) (esC (eK (.int b)) esN))) esN))
theorem Ei.n(hx:lo x=aa (.ref r))(h:IL B r l):Ei B (eN x) lo l:=λx k=>aY hx (k (.refl _) (x _ _ h))
theorem zaa(h:Ei B f lo l)(h':Ei B g lo l')(hl:l.length+l'.length<1000):Ei B (aA aL f g) lo (l++l'):=λ{H Q} x k=>
 bA (h x λ{H1 r1} x1 h1=>h' (x.trans x1) λ{H2 r2} x2 h2=>q6 (x2 _ _ h1) h2 (by rw[ay,ay];exact Y109 hl) (k ((x1.trans x2).trans (.app _ _)) (by
  delta IL
  exact rwL cz (bC _ _))))
theorem Ei.one:Ei B (b9 (esC (eK (.int z)) esN)) lo [z]:=λ{H Q} x k=>uZ (cL (rD (k (.app _ _) (bC _ _))))
theorem Ei.lr{a b:Int}{n:Nat}(h:∀ (H:MH) (Q:EK),bW (eR X.gc 6 X.gv) (λi=>i) [.rng a b 1] H Q=Q (.ref H.length) (H++[.list ((rI a n).map V.int)])):Ei B (lrE X a b) lo (rI a n):=λ{H Q} x k=>
 bV (aP (aP (cL (aP (cL (b8 (qY (b8 (kch (h H Q) (k (.app _ _) (bC _ _)))))))))))
theorem wZ(h:f lo H λv H1=>g lo H1 λw H2=>(2<100/\2=2/\K .next (upd (upd lo y w) x v) H2)):bO [x,y] (bD (esC f (esC g esN))) lo H K:=kch ⋯ h
def fLs(r1 r2 rs:Nat):ac (Str×V):=[("first",.ref r1),("second",.ref r2),("script",.ref rs)]
inductive LsJ(B:MH)(rs:Nat)(n1 n2:Nat)(lo:Lo)(H:MH):Prop
 |mk {r1 r2:Nat}{l1 l2:ac Int} (F:Fs (fLs r1 r2 rs) lo) (x:Hx B H) (h1:IL H r1 l1) (h2:IL H r2 l2) (e1:l1.length<=n1) (e2:l2.length<=n2):LsJ B rs n1 n2 lo H
theorem qT(F:Fs (fLs r1 r2 rs) lo)(x:Hx B H)(h1:Ei H f lo l1)(h2:Ei H g lo l2)(e1:l1.length<=n1)(e2:l2.length<=n2)(k:∀ {lo' H'},LsJ B rs n1 n2 lo' H'->K .next lo' H'):bO ["first","second"] (bD (esC f (esC g esN))) lo H K:=wZ (h1 (.refl _) λ{H1 a1} x1 g1=>h2 x1 λ{H2 a2} x2 g2=>⟨by decide,rfl,k (.mk (((F.cons "second" (.ref a2)).cons "first" (.ref a1)).re (fLs a1 a2 rs) ⋯) ((x.trans x1).trans x2) (x2 _ _ g1) g2 e1 e2)⟩)
theorem ls_0(hs:lo "script" =aa (.ref rs))(k:∀ {lo' H' r1 r2},Fs (fLs r1 r2 rs) lo'->Hx H H'->IL H' r1 ([25]++rI 30 7)->IL H' r2 (rI 30 7)->H[r1]? =none->H[r2]? =none->r1≠r2->K .next lo' H'):jQ X lo H K:=by
 refine show bO ["first","second"] (bD (esC (aA aL (b9 (esC (eK (.int 25)) esN)) (lrE X 30 37)) (esC (lrE X 30 37) esN))) lo H K from wZ ?_
 have lr:∀ (H:MH) (Q:EK),bW (eR X.gc 6 X.gv) (λi=>i) [.rng 30 37 1] H Q=Q (.ref H.length) (H++[.list ((rI 30 7).map V.int)]):=λH Q=>by kernel_rfl
 refine bA (uZ (cL (rD (bV (aP (aP (cL (aP (cL (b8 (qY (b8 (kch (lr _ _) ?_)))))))))))))
 have x1:=Hx.app H [MO.list [V.int 25]]
 have g1:=bC H (MO.list [V.int 25])
 revert x1 g1
 generalize H++[MO.list [V.int 25]]=H1
 refine λx1 g1=>(q6 (Hx.app H1 _ _ _ g1) (bC _ _) (by rw[ay,k4];decide) ?_)
 have x2:=x1.trans (Hx.app H1 [MO.list ((rI 30 7).map V.int)])
 revert x2
 generalize H1++[MO.list ((rI 30 7).map V.int)]=H2
 intro x2
 have x3:=Hx.app H2 [MO.list ([V.int 25]++(rI 30 7).map V.int)]
 have g3:=bC H2 (MO.list ([V.int 25]++(rI 30 7).map V.int))
 have f3:=x2.no (aM H2)
 revert x3 g3
 generalize H2++[MO.list ([V.int 25]++(rI 30 7).map V.int)]=H3
 refine λx3 g3=>(bV (aP (aP (cL (aP (cL (b8 (qY (b8 (kch (lr _ _) ?_))))))))))
 have F:∀ {a1 a2:Nat},Fs (fLs a1 a2 rs) (upd (upd lo "second" (.ref a2)) "first" (.ref a1)):=λ{a1 a2}=>((((show Fs [(("script" :Str),.ref rs)] lo from λx v e=>by
  have:=mem_of_lookup e
  rw[cy]at this
  cases this
  exact hs).cons "second" (.ref a2)).cons "first" (.ref a1))).re _ ⋯
 exact⟨by decide,rfl,k F ((x2.trans x3).trans (.app _ _)) (Hx.app H3 _ _ _ g3) (bC _ _) f3 ((x2.trans x3).no (aM H3)) (cI g3).symm⟩
inductive LsI(B:MH)(rs:Nat)(rest:ac V)(lo:Lo)(H:MH):Prop
 |mk {r1 r2:Nat}{l1 l2 sc:ac Int} (F:Fs (fLs r1 r2 rs) lo) (x:Hx B H) (h1:IL H r1 l1) (h2:IL H r2 l2) (f1:B[r1]? =none) (f2:B[r2]? =none) (ne:r1≠r2) (er:rest=sc.map V.int) (e1:l1.length+sc.length<=71) (e2:l2.length+sc.length<=70):LsI B rs rest lo H
theorem aCd:aS not (.int x) (.int y) H=aa (.bool (!decide (x=y)),H):=by kernel_rfl
theorem ls_if(hx:lo "x" =aa (.int x))(hy:lo y=aa (.ref r))(h:IL H r l)(hl:l.length<1000)(k0:K .next lo H)(k1:∀ z,K .next lo (H.set r (.list ((l++[z]).map V.int)))):(sIf (tE (aA (aS not) (aA c6 (eN "x") (eK (.int 4))) (eK (.int m)))) (aB (aZ (cV (eN y) (aA c6 (aA q7 (eN "x") (eK (.int 4))) (eK (.int 5))))) (sK .next)) (sK .next)) lo H K:=by
 refine eM (fD (Evv.bin (.bin (.n hx) .k (kB (by decide))) .k aCd _ (Lf.mk rfl ?_)))
 cases(!decide (x%4=m)) with
 |false=>exact aR k0
 |true=>
  refine aW (aI (sT hy h (Evv.bin (.bin (.n hx) .k (div_e (by decide))) .k (kB (by decide)) _ (sU h (by rw[ay];exact Y108 hl) (aH ?_)))))
  have:=k1 (x/4%5)
  rw[cz]at this
  exact this
theorem ls_1(hl:sc.length<=63)(hs:LI B rs sc)(F:Fs (fLs r1 r2 rs) lo)(x:Hx B H)(h1:IL H r1 ([25]++rI 30 7))(h2:IL H r2 (rI 30 7))(f1:B[r1]? =none)(f2:B[r2]? =none)(ne:r1≠r2)(k:∀ {lo' H'},LsJ B rs 71 70 lo' H'->K .next lo' H'):jP X lo H K:=by
 refine vM (iL_i (λq=>aY (F _ (.ref rs) ⋯) q) (x.li hs) ⟨_,fV (LsI B rs) (vs:=sc.map V.int) (λI=>?_) (λI=>?_) (λ{v rest lo H K} I go=>?_) _ 0 rfl (.mk F x h1 h2 f1 f2 ne rfl (by rw[am,k4,bo];exact Y107 hl) (by rw[k4];exact Y106 hl))⟩)
 ·cases I with
  |mk F x=>exact x.li hs
 ·cases I with
  | @mk r1 r2 l1 l2 sc' F x h1 h2 f1 f2 ne er e1 e2=>exact k (.mk F x h1 h2 (Nat.le_trans (ly _ _) e1) (Nat.le_trans (ly _ _) e2))
 ·cases I with
  | @mk r1 r2 l1 l2 sc' F x h1 h2 f1 f2 ne er e1 e2=>
   cases sc' with
   |nil=>cases er
   |cons z sc'=>
    obtain⟨rfl,rfl⟩:=jm.mp er
    rw[cq]at e1 e2
    show aB _ _ (upd lo "x" (.int z)) H K
    have F0:=F.cons "x" (.int z)
    generalize upd lo "x" (.int z)=lo at F0
    have F1:Fs (fLs r1 r2 rs) lo:=F0.re _ ⋯
    have hx:=F0 ("x" :Str) (.int z) ⋯
    have st2:∀ {l1:ac Int}{H:MH},Hx B H->IL H r1 l1->IL H r2 l2->l1.length+sc'.length<=71->aB (sIf (tE (aA (aS not) (aA c6 (eN "x") (eK (.int 4))) (eK (.int 0)))) (aB (aZ (cV (eN "second") (aA c6 (aA q7 (eN "x") (eK (.int 4))) (eK (.int 5))))) (sK .next)) (sK .next)) (sK .next) lo H K:=λ{l1 H} x h1 h2 e1=>
     aI (ls_if hx (F1 _ (.ref r2) ⋯) h2 (Y105 e2) (aH (go.nx (.mk F1 x h1 h2 f1 f2 ne rfl e1 (Y104 e2)))) λw=>aH (go.nx (.mk F1 (x.set f2) (aJ h1 ne.symm) (aG h2 _) f1 f2 ne rfl e1 (by exact rwL am (rwL bo (Y103 e2))))))
    exact aI (ls_if hx (F1 _ (.ref r1) ⋯) h1 (Y102 e1) (aH (st2 x h1 h2 (Y101 e1))) λw=>aH (st2 (x.set f1) (aG h1 _) (aJ h2 ne) (by exact rwL am (rwL bo (Y100 e1)))))
theorem aCs(hl:sc.length<=63)(hs:LI H rs sc)(k:∀ {H' r1 r2}{l1 l2:ac Int},Hx H H'->IL H' r1 l1->IL H' r2 l2->l1.length<=88->l2.length<=88->Q (.tup [.ref r1,.ref r2]) H'):jB X [.ref rs] H Q:=by
 refine⟨rfl,?_⟩
 have F:Fs [("script",.ref rs)] (loB ["script"] [.ref rs] lo0):=Fs.cons (l:=[]) nofun "script" (.ref rs)
 show i8 X (loB ["script"] [.ref rs] lo0) H (kY Q)
 revert F
 generalize loB ["script"] [.ref rs] lo0=lo
 refine λF=>(aI (ls_0 X (F _ (.ref rs) ⋯) λ{lo1 H1 r1 r2} F1 x1 h1 h2 f1 f2 ne=>aH (aI (ls_1 X hl hs F1 x1 h1 h2 f1 f2 ne λ{lo2 H2} J=>aH (aI ?_)))))
 cases J with
 | @mk r1 r2 l1 l2 F2 x2 h1 h2 e1 e2=>
 have r4:=k4 40 7
 have r2':=k4 20 5
 have r5:=k4 50 5
 refine show bO ["first","second"] (bD (esC (aA aL (eN "first") (lrE X 40 47)) (esC (aA aL (aA aL (eN "second") (lrE X 40 47)) (b9 (esC (eK (.int 47)) esN))) esN))) _ _ _ from qT F2 x2 (zaa (Ei.n (F2 _ (.ref r1) ⋯) h1) (Ei.lr X (λH Q=>by kernel_rfl)) (Y99 e1 r4)) (zaa (zaa (Ei.n (F2 _ (.ref r2) ⋯) h2) (Ei.lr X (λH Q=>by kernel_rfl)) (Y98 e2 r4)) Ei.one (by exact rwL am (rwL bo (Y97 e2 r4)))) (by exact rwL am (Y96 e1 r4)) (by exact rwL am (rwL am (rwL bo (Y95 e2 r4)))) λ{lo3 H3} J=>aH (aI ?_)
 have sumT:∀ {lo:Lo}{H1:MH}{m:Int}{P:dj->MH->Prop},lo "script" =aa (.ref rs)->Hx H H1->P (!decide (sc.sum%4=m)) H1->tE (aA (aS not) (aA c6 (aK cSum (esC (eN "script") esN)) (eK (.int 4))) (eK (.int m))) lo H1 P:=λ{lo H1 m P} hs' x q=>
  fD (bA (bA (bV (aP (aY hs' (b8 (sum_i (x.li hs) (cL (Lp.mk (kB (by decide)) (cL (Lp.mk aCd (Lf.mk rfl q))))))))))))
 have s3:∀ {lo:Lo}{H1:MH}{K:SK},LsJ H rs 78 78 lo H1->(∀ {lo' H'},LsJ H rs 83 83 lo' H'->K .next lo' H')->jO X lo H1 K:=λ{lo H1 K} J k=>by
  cases J with
  | @mk r1 r2 l1 l2 F x h1 h2 e1 e2=>
   refine eM (sumT (F _ (.ref rs) ⋯) x ?_)
   cases(!decide (sc.sum%4=1)) with
   |false=>exact aR (k (.mk F x h1 h2 (Y94 e1) (Y94 e2)))
   |true=>exact aW (aI (show bO ["first","second"] (bD (esC (aA aL (lrE X 20 25) (eN "first")) (esC (aA aL (lrE X 20 25) (eN "second")) esN))) _ _ _ from qT F x (zaa (Ei.lr X (λH Q=>by kernel_rfl)) (Ei.n (F _ (.ref r1) ⋯) h1) (Y93 r2' e1)) (zaa (Ei.lr X (λH Q=>by kernel_rfl)) (Ei.n (F _ (.ref r2) ⋯) h2) (Y93 r2' e2)) (by exact rwL am (Y92 r2' e1)) (by exact rwL am (Y92 r2' e2)) λJ=>aH (k J)))
 have s4:∀ {lo:Lo}{H1:MH}{K:SK},LsJ H rs 83 83 lo H1->(∀ {lo' H'},LsJ H rs 88 88 lo' H'->K .next lo' H')->jN X lo H1 K:=λ{lo H1 K} J k=>by
  cases J with
  | @mk r1 r2 l1 l2 F x h1 h2 e1 e2=>
   refine eM (sumT (F _ (.ref rs) ⋯) x ?_)
   cases(!decide (sc.sum%4=2)) with
   |false=>exact aR (k (.mk F x h1 h2 (Y91 e1) (Y91 e2)))
   |true=>exact aW (aI (show bO ["first","second"] (bD (esC (aA aL (eN "first") (lrE X 50 55)) (esC (aA aL (eN "second") (lrE X 50 55)) esN))) _ _ _ from qT F x (zaa (Ei.n (F _ (.ref r1) ⋯) h1) (Ei.lr X (λH Q=>by kernel_rfl)) (Y90 r5 e1)) (zaa (Ei.n (F _ (.ref r2) ⋯) h2) (Ei.lr X (λH Q=>by kernel_rfl)) (Y90 r5 e2)) (by exact rwL am (Y89 r5 e1)) (by exact rwL am (Y89 r5 e2)) λJ=>aH (k J)))
 refine s3 J λ{lo4 H4} J=>aH (aI (s4 J λ{lo5 H5} J=>aH (aI ?_)))
 cases J with
 | @mk r1 r2 l1 l2 F x h1 h2 e1 e2=>
  exact show dX (bD (esC (eN "first") (esC (eN "second") esN))) _ _ _ from oO (aP (aY (F _ (.ref r1) ⋯) (aP (aY (F _ (.ref r2) ⋯) (b8 ⟨(show 2<100 by decide),k x h1 h2 e1 e2⟩)))))
structure Rdr where
 n:Int
 era:ae Nat
 cnt:Nat
 ov:dj
structure Era where
 W:ac Op
 lst:ae Int
noncomputable abbrev Tags:=Nat->Nat×Nat
structure EOk(W:ac Op):Prop where
 al:alt (W.map isE)
 bal:Bal W
 len:W.length<=200
 sg:Sg1 W
theorem EOk.of(h:Cod a b none 0 0 W)(al:a.length<=88)(bl:b.length<=88):EOk W:=⟨h.alt.1,h.bal,by exact Y115 al bl h.len1,λo e=>h.le1 o (e▸ .head _)⟩
theorem EOk.cut(h:EOk W)(q:ae Int):Bal (cW q W)/\alt ((cW q W).map isE)/\(cW q W).length<=200:=by
 cases q with
 |none=>exact⟨h.bal,h.al,h.len⟩
 |some m=>exact⟨aDu h.bal,by show alt ((aV m W).map isE);rw[qD];exact h.al,by show(aV m W).length<=200;rw[d5];exact h.len⟩
inductive GS(H:MH)(T:Tags)(s:Nat)(ers:ac Era)(k gi:Nat)(n:Int):ae Nat->Nat->Prop
 |fresh (g:H[gi]? =aa (.gen (.fresh (loB ["self","n"] [.ref s,.int n] lo0)))):GS H T s ers k gi n none 0
 |run {e c s' gr p it cnt:Nat}{m:Int}{W:ac Op}{o:Op} (he:ers[e]? =aa ⟨W,aa m⟩) (m0:0<=m) (mn:m<=n) (g:H[gi]? =aa (.gen (.loop it (kX s' n c gr o)))) (ti:T it=(8,k)) (i:H[it]? =aa (.itr (aa (c,p)))) (tc:T c=(10,e)) (hc:H[c]? =aa (.list ((aV m W).map Op.v)))
   (p1:1<=p) (pl:p<=(aV m W).length) (hb:bE n o=ag) (ho:(aV m W)[p-1]? =aa o) (cn:cnt=nb n ((aV m W).take p)):GS H T s ers k gi n (aa e) cnt
 |done {e cnt:Nat}{m:Int}{W:ac Op} (he:ers[e]? =aa ⟨W,aa m⟩) (m0:0<=m) (mn:m<=n) (g:H[gi]? =aa (.gen .fin)\/∃ lo,H[gi]? =aa (.gen (.last lo))) (cn:(groups n (aV m W)).length<=cnt):GS H T s ers k gi n (aa e) cnt
def tg(H:MH)(T f:Tags):Tags:=λi=>if i<H.length then T i else f i
def TA(H:MH)(T T':Tags):Prop:=∀ (r:Nat) (m:MO),H[r]? =aa m->T' r=T r
theorem iJ:TA H T (tg H T f):=λr m e=>aw (List.getElem?_eq_some_iff.mp e).1
theorem cY(h:H[i]? =none):tg H T f i=f i:=aq (Nat.not_lt.mpr (getElem?_eq_none_iff.mp h))
theorem eW(h:tg H T f i=x):((∃ m,H[i]? =aa m)/\T i=x)\/(H[i]? =none/\f i=x):=by
 by_cases q:i<H.length
 ·exact .inl ⟨⟨_,az q⟩,(aw q).symm.trans h⟩
 ·exact .inr ⟨getElem?_eq_none_iff.mpr (Nat.not_lt.mp q),(aq q).symm.trans h⟩
theorem GS.to{cnt:Nat}(G:GS H T s ers k gi n o cnt)(n0:0<=n)(ta:TA H T T')(hg:∀ m,H[gi]? =aa m->H'[gi]? =aa m)(hi:∀ (r:Nat) (m:MO),T r=(8,k)->H[r]? =aa m->H'[r]? =aa m)(he:∀ (e:Nat) (W:ac Op) (m:Int),ers[e]? =aa ⟨W,aa m⟩->Sg1 W/\∃ m',ers'[e]? =aa ⟨W,aa m'⟩/\0<=m'/\m'<=m/\∀ c,T c=(10,e)->H[c]? =aa (.list ((aV m W).map Op.v))->H'[c]? =aa (.list ((aV m' W).map Op.v))):GS H' T' s ers' k gi n o cnt:=by
 cases G with
 |fresh g=>exact .fresh (hg _ g)
 |run h m0 mn g ti i tc hc p1 pl hb ho cn=>
  obtain⟨_,m',h1,h2,h3,h4⟩:=he _ _ _ h
  exact .run h1 h2 (bw h3 mn) (hg _ g) ((ta _ _ i).trans ti) (hi _ _ ti i) ((ta _ _ hc).trans tc) (h4 _ tc hc) p1 (by rw[d5]at pl ⊢;exact pl) hb (big_at n0 mn ho hb) (by exact rwL cn (nb_c2 n0 mn (bw h3 mn) _))
 |done h m0 mn g cn=>
  obtain⟨sg,m',h1,h2,h3,h4⟩:=he _ _ _ h
  exact .done h1 h2 (bw h3 mn) (g.imp (hg _) fun⟨lo,g⟩=>⟨lo,hg _ g⟩) (by exact rwL (uG n0 h2 m0 (bw h3 mn) mn sg) cn)
theorem GS.at_g{cnt:Nat}(G:GS H T s ers k gi n o cnt):∃ m,H[gi]? =aa m:=by
 cases G with
 |fresh g=>exact⟨_,g⟩
 |run he m0 mn g=>exact⟨_,g⟩
 |done he m0 mn g=>exact g.elim (λg=>⟨_,g⟩) fun⟨_,g⟩=>⟨_,g⟩
structure MZ(X:XX C)(H:MH)(T:Tags)(s xa xb:Nat)(W:ac Op)(e:Nat)(oc:ae Nat):Prop where
 ts:T s=(5,0)
 tc:∀ c,oc=aa c->T c=(10,e)
 un:∀ (c:Nat) (m:MO),T c=(10,e)->H[c]? =aa m->oc=aa c
 k:∀ H':MH,(∀ (r:Nat) (m:MO),T r=(0,0)\/r=s\/oc=aa r->H[r]? =aa m->H'[r]? =aa m)->Mst X H' s xa xb W oc
theorem MZ.m{X:XX C}(h:MZ X H T s xa xb W e oc):Mst X H s xa xb W oc:=h.k H λ_ _ _ e=>e
theorem Mst.at_c{X:XX C}(h:Mst X H s xa xb W (aa c)):H[c]? =aa (.list (W.map Op.v)):=by
 cases h with
 |kept h hf hc mf=>exact hc
theorem MZ.to{X:XX C}(h:MZ X H T s xa xb W e oc)(ta:TA H T T')(nt:∀ (c:Nat) (m:MO),T' c=(10,e)->H'[c]? =aa m->∃ m,H[c]? =aa m)(kp:∀ (r:Nat) (m:MO),T r=(0,0)\/r=s\/oc=aa r->H[r]? =aa m->H'[r]? =aa m):MZ X H' T' s xa xb W e oc:=by
 refine⟨xE h.m.o λff so=>(ta _ _ so).trans h.ts,λc q=>((ta _ _ (q▸h.m).at_c).trans (h.tc c q)),λc m q z=>xE (nt c m q z) λm' er=>h.un c m' ((ta _ _ er).symm.trans q) er,λH2 k2=>h.k H2 λr m z er=>k2 r m ?_ (kp r m z er)⟩
 ·rcases z with z |z
  ·exact .inl ((ta _ _ er).trans z)
  ·exact .inr z
theorem MZ.kept{X:XX C}(h:Mst X H s xa xb W (aa c))(ts:T s=(5,0))(tc:T c=(10,e))(un:∀ (c':Nat) (m:MO),T c'=(10,e)->H[c']? =aa m->c'=c):MZ X H T s xa xb W e (aa c):=by
 refine⟨ts,λc' q=>by exact cxS q tc,λc' m q er=>bg aa (un c' m q er).symm,λH2 k2=>?_⟩
 cases h with
 |kept h hf hc mf=>exact .kept (k2 _ _ (.inr (.inl rfl)) h) hf (k2 _ _ (.inr (.inr rfl)) hc) mf
def erV(ecs:ac Nat):ae Nat->V |none=>.none |some e=>.ref (ecs[e]?.getD 0)
def rdV(ecs:ac Nat)(gi:Nat)(r:Rdr):ac V:=[.ref gi,.int r.n,erV ecs r.era,nv r.cnt,.bool r.ov]
def pV(p:Nat×Nat):V:=.tup [.ref p.1,.ref p.2]
def GvS(H:MH)(T:Tags)(G gn:Nat):Prop:=∃ ps:ac (Nat×Nat),H[G]? =aa (.list (ps.map pV))/\T G=(3,0)/\ps.length=gn/\∀ p∈ps,T p.1=(0,0)/\T p.2=(0,0)/\∃ g:ac Op,H[p.1]? =aa (.list (g.map Op.v))/\H[p.2]? =aa (.list (g.map Op.v))
structure Inv(X:XX C)(H:MH)(T:Tags)(s R G E ra rb:Nat)(rcs ecs:ac Nat)(rs:ac Rdr)(ers:ac Era)(gn:Nat):Prop where
 hR:H[R]? =aa (.list (rcs.map V.ref))
 tR:T R=(2,0)
 lR:rcs.length=rs.length
 rd:∀ (k:Nat) (r:Rdr) (x:Nat),rs[k]? =aa r->rcs[k]? =aa x->T x=(6,k)/\0<=r.n/\∃ gi,T gi=(7,k)/\H[x]? =aa (.list (rdV ecs gi r))/\GS H T s ers k gi r.n r.era r.cnt
 hE:H[E]? =aa (.list (ecs.map V.ref))
 tE:T E=(4,0)
 lE:ecs.length=ers.length
 er:∀ (e:Nat) (w:Era) (x:Nat),ers[e]? =aa w->ecs[e]? =aa x->T x=(9,e)/\EOk w.W/\Nn w.lst/\∃ r,T r=(0,0)/\H[x]? =aa (.list [.ref r,lsV w.lst])/\H[r]? =aa (.list (w.W.map Op.v))
 cur:∃ (e:Nat) (w:Era) (oc:ae Nat),ers.length=e+1/\ers[e]? =aa w/\MZ X H T s ra rb (cW w.lst w.W) e oc
 gv:GvS H T G gn
 ls:∃ a b:ac Int,T ra=(0,0)/\T rb=(0,0)/\IL H ra a/\IL H rb b/\a.length<=88/\b.length<=88
 t10:∀ (c:Nat) (m:MO) (j:Nat),T c=(10,j)->H[c]? =aa m->j<ers.length
theorem aCw(h:LI H r l)(k:∀ m,H[r]? =aa m->H'[r]? =aa m):LI H' r l:=by
 show H'[r]?.bind MO.vs=_
 change H[r]?.bind MO.vs=_ at h
 refine xEA (aj.mp h) λm h1 h2=>?_
 exact rwL (k m h1) h2
theorem xS(h:LI H r l):∃ m,H[r]? =aa m:=by
 change H[r]?.bind MO.vs=_ at h
 refine xEA (aj.mp h) λm h1 h2=>?_
 exact⟨m,h1⟩
theorem Inv.eok{X:XX C}(I:Inv X H T s R G E ra rb rcs ecs rs ers gn){e:Nat}(h:ers[e]? =aa w):EOk w.W/\Nn w.lst:=by
 have hl:=(List.getElem?_eq_some_iff.mp h).1
 rw[<-I.lE]at hl
 exact⟨(I.er e w _ h (az hl)).2.1,(I.er e w _ h (az hl)).2.2.1⟩
theorem Inv.pull{X:XX C}(I:Inv X H T s R G E ra rb rcs ecs rs ers gn)(hk:rs[k]? =aa r)(he:ers.length=e+1)(ta:TA H T T')(kp:∀ (i:Nat) (m:MO),T i≠(6,k)->T i≠(7,k)->T i≠(8,k)->T i≠(5,0)->T i≠(10,e)->T i≠(9,e)->T i≠(3,0)->H[i]? =aa m->H'[i]? =aa m)(hn:r'.n=r.n)(hr:∀ x,rcs[k]? =aa x->∃ gi,T' gi=(7,k)/\H'[x]? =aa (.list (rdV ecs gi r'))/\GS H' T' s ers' k gi r'.n r'.era r'.cnt)(hw:ers[e]? =aa w)(es:ers'=ers.set e ⟨w.W,l'⟩)(ln:Nn l')(hl:∀ m,w.lst=aa m->∃ m',l'=aa m'/\m'<=m/\∀ c,T c=(10,e)->H[c]? =aa (.list ((aV m w.W).map Op.v))->H'[c]? =aa (.list ((aV m' w.W).map Op.v)))(hy:∀ y r0,ecs[e]? =aa y->H[y]? =aa (.list [.ref r0,lsV w.lst])->H'[y]? =aa (.list [.ref r0,lsV l']))(hm:∃ oc,MZ X H' T' s ra rb (cW l' w.W) e oc)(hg:GvS H' T' G gn')(ht:∀ (c:Nat) (m:MO) (j:Nat),T' c=(10,j)->H'[c]? =aa m->j<ers.length):Inv X H' T' s R G E ra rb rcs ecs (rs.set k r') ers' gn':=by
 have el:=Y114 he
 have at_e:∀ {j:Nat}{v:Era},ers'[j]? =aa v->(j=e/\v=⟨w.W,l'⟩)\/(j≠e/\ers[j]? =aa v):=λ{j v} q=>by
  by_cases z:j=e
  ·subst z
   rw[es,bn el]at q
   exact .inl ⟨rfl,(Option.some.inj q).symm⟩
  ·rw[es,ei (λq=>z q.symm)]at q
   exact .inr ⟨z,q⟩
 have fz:∀ {i:Nat}{m:MO},T i=(0,0)->H[i]? =aa m->H'[i]? =aa m:=λ{i m} t q=>kp i m (by rw[t];nofun) (by rw[t];nofun) (by rw[t];nofun) (by rw[t];nofun) (by rw[t];nofun) (by rw[t];nofun) (by rw[t];nofun) q
 have oth:∀ {a j i:Nat}{m:MO},j≠k->(a=6\/a=7\/a=8)->T i=(a,j)->H[i]? =aa m->H'[i]? =aa m:=λ{a j i m} nk ha t q=>by
  have n:∀ c,(a,j)≠(c,k):=λc z=>nk (bg Prod.snd z)
  have n2:∀ {c d:Nat},c≠a->(a,j)≠(c,d):=λh z=>h (bg Prod.fst z).symm
  refine kp i m (by exact rwL t (n 6)) (by exact rwL t (n 7)) (by exact rwL t (n 8)) (by exact rwL t (n2 (Y113 ha))) (by exact rwL t (n2 (Y112 ha))) (by exact rwL t (n2 (Y111 ha))) (by exact rwL t (n2 (Y110 ha))) q
 refine⟨kp _ _ (by rw[I.tR];nofun) (by rw[I.tR];nofun) (by rw[I.tR];nofun) (by rw[I.tR];nofun) (by rw[I.tR];nofun) (by rw[I.tR];nofun) (by rw[I.tR];nofun) I.hR,(ta _ _ I.hR).trans I.tR,by exact rwL jj I.lR,λj v x q1 q2=>?_,kp _ _ (by rw[I.tE];nofun) (by rw[I.tE];nofun) (by rw[I.tE];nofun) (by rw[I.tE];nofun) (by rw[I.tE];nofun) (by rw[I.tE];nofun) (by rw[I.tE];nofun) I.hE,(ta _ _ I.hE).trans I.tE,by exact rwL es (rwL jj I.lE),λj v x q1 q2=>?_,?_,hg,?_,λc m j q z=>by rw[es,jj];exact ht c m j q z⟩
 ·by_cases z:j=k
  ·subst z
   rw[bn ((List.getElem?_eq_some_iff.mp hk).1)]at q1
   refine cxS q1 ?_
   obtain⟨t1,n0,gi,t2,h1,g⟩:=I.rd j r x hk q2
   exact⟨(ta _ _ h1).trans t1,by exact rwL hn n0,hr x q2⟩
  ·obtain⟨t1,n0,gi,t2,h1,g⟩:=I.rd j v x (rwR (ei (λq=>z q.symm)) q1) q2
   refine xE g.at_g λmg gx=>?_
   refine⟨(ta _ _ h1).trans t1,n0,gi,(ta _ _ gx).trans t2,oth z (.inl rfl) t1 h1,g.to n0 ta (λm q=>oth z (.inr (.inl rfl)) t2 q) (λi m t q=>oth z (.inr (.inr rfl)) t q) λe' W m q=>⟨(I.eok q).1.sg,?_⟩⟩
   by_cases ze:e'=e
   ·subst ze
    refine cyS (hw▸q) λzq=>?_;subst zq
    obtain⟨m',z1,z2,z3⟩:=hl m rfl
    refine⟨m',by rw[es,bn el,z1],ln m' z1,z2,z3⟩
   ·refine⟨m,by rw[es,ei (λq=>ze q.symm)];exact q,(I.eok q).2 m rfl,Int.le_refl m,λc t q=>?_⟩
    exact kp c _ (by rw[t];nofun) (by rw[t];nofun) (by rw[t];nofun) (by rw[t];nofun) (by exact rwL t (λz=>ze (bg Prod.snd z))) (by rw[t];nofun) (by rw[t];nofun) q
 ·rcases at_e q1 with ⟨rfl,rfl⟩ |⟨ne,q⟩
  ·obtain⟨t1,ok,nn,r0,t0,h1,h2⟩:=I.er j w x hw q2
   exact⟨(ta _ _ h1).trans t1,ok,ln,r0,(ta _ _ h2).trans t0,hy x r0 q2 h1,fz t0 h2⟩
  ·obtain⟨t1,ok,nn,r0,t0,h1,h2⟩:=I.er j v x q q2
   exact⟨(ta _ _ h1).trans t1,ok,nn,r0,(ta _ _ h2).trans t0,kp _ _ (by rw[t1];nofun) (by rw[t1];nofun) (by rw[t1];nofun) (by rw[t1];nofun) (by rw[t1];nofun) (by exact rwL t1 (λz=>ne (bg Prod.snd z))) (by rw[t1];nofun) h1,fz t0 h2⟩
 ·obtain⟨oc,hm⟩:=hm
  exact⟨e,⟨w.W,l'⟩,oc,by rw[es,jj];exact he,by rw[es,bn el],hm⟩
 ·obtain⟨a,b,t1,t2,h1,h2,h3⟩:=I.ls
  exact⟨a,b,(ta _ _ h1).trans t1,(ta _ _ h2).trans t2,fz t1 h1,fz t2 h2,h3⟩
theorem Inv.hx{X:XX C}(I:Inv X H T s R G E ra rb rcs ecs rs ers gn)(x:Hx H H')(ta:TA H T T')(nt:∀ c e,T' c=(10,e)->∃ m,H[c]? =aa m):Inv X H' T' s R G E ra rb rcs ecs rs ers gn:=by
 refine⟨x _ _ I.hR,(ta _ _ I.hR).trans I.tR,I.lR,λj v y q1 q2=>?_,x _ _ I.hE,(ta _ _ I.hE).trans I.tE,I.lE,λj v y q1 q2=>?_,?_,?_,?_,λc m j q z=>xE (nt c j q) λm' h=>I.t10 c m' j ((ta _ _ h).symm.trans q) h⟩
 ·obtain⟨t1,n0,gi,t2,h1,g⟩:=I.rd j v y q1 q2
  obtain⟨mg,gx⟩:=g.at_g
  exact⟨(ta _ _ h1).trans t1,n0,gi,(ta _ _ gx).trans t2,x _ _ h1,g.to n0 ta (λm q=>x _ _ q) (λi m t q=>x _ _ q) λe' W m q=>⟨(I.eok q).1.sg,m,q,(I.eok q).2 m rfl,Int.le_refl m,λc t q=>x _ _ q⟩⟩
 ·obtain⟨t1,ok,nn,r0,t0,h1,h2⟩:=I.er j v y q1 q2
  exact⟨(ta _ _ h1).trans t1,ok,nn,r0,(ta _ _ h2).trans t0,x _ _ h1,x _ _ h2⟩
 ·obtain⟨e,w,oc,h1,h2,h3⟩:=I.cur
  exact⟨e,w,oc,h1,h2,h3.to ta (λc m q _=>nt c e q) λr m _ q=>x _ _ q⟩
 ·refine xEAAA I.gv λps h1 h2 h3 h4=>?_
  exact⟨ps,x _ _ h1,(ta _ _ h1).trans h2,h3,λp hp=>let ⟨t1,t2,g,g1,g2⟩:=h4 p hp;⟨(ta _ _ g1).trans t1,(ta _ _ g2).trans t2,g,x _ _ g1,x _ _ g2⟩⟩
 ·obtain⟨a,b,t1,t2,h1,h2,h3⟩:=I.ls
  exact⟨a,b,(ta _ _ h1).trans t1,(ta _ _ h2).trans t2,x _ _ h1,x _ _ h2,h3⟩
theorem ixn(h:H[x]? =aa (.list vs))(hv:vs[k]? =aa v)(hl:vs.length<100000):aO (.ref x) (nv k) H=aa (v,H):=by
 have kl:=(List.getElem?_eq_some_iff.mp hv).1
 exact hO h ⟨Y53,Y82 hl kl⟩ (cP (cj k) (Y66 kl)) (by rw[ii];exact hv)
theorem stn(h:H[x]? =aa (.list vs))(kl:k<vs.length)(hl:vs.length<100000)(q:P (H.set x (.list (vs.set k v)))):Lf (tU (.ref x) (nv k) v H) P:=Lf.mk (qW h ⟨Y53,Y118 kl hl⟩ (by rw[cP (cj k) (Y66 kl),ii])) q
def isN:V->dj | .none=>ag |_=>af
theorem xV(h:v.no=isN v):oIs id v .none H=aa (.bool (isN v),H):=by
 show(isV v .none H).map _=_
 have:isV v .none H=aa (isN v):=by rw[<-h];rfl
 rw[this];rfl
theorem xW(h:v.no=isN v):oIs not v .none H=aa (.bool (!isN v),H):=by
 show(isV v .none H).map _=_
 have:isV v .none H=aa (isN v):=by rw[<-h];rfl
 rw[this];rfl
def rdL(gi:Nat)(n:Int)(v:V)(c:Nat)(b:dj):ac V:=[.ref gi,.int n,v,nv c,.bool b]
def rE(x:Str)(k:Nat):EF:=aA aO (eN x) (eK (nv k))
theorem k7(hx:lo x=aa (.ref r))(h:H[r]? =aa (.list vs))(hv:vs[k]? =aa v)(hl:vs.length<100000):Evv (rE x k) lo H v:=.bin (.n hx) .k (ixn h hv hl)
def fP(x y G:Nat):ac (Str×V):=[("reader",.ref x),("now",.ref y),("given",.ref G)]
def pst:SF:=(sIf (tE (aA (oIs id) (rE "reader" 2) (eK .none))) (aB (bX (eN "now") (fY (eN "reader") (eK (nv 2)))) (aB (bX (eIf (tE (aA (oIs id) (rE "now" 1) (eK .none))) (rE "reader" 1) (aK lJ (esC (rE "now" 1) (esC (rE "reader" 1) esN)))) (fY (eN "now") (eK (nv 1)))) (sK .next))) (sK .next))
theorem p0_old{cnt:Nat}(F:Fs (fP x y G) lo)(hx:H[x]? =aa (.list (rdL gi n (.ref e) cnt ov)))(k:K .next lo H):pst lo H K:=eM (fD (bA (k7 (F _ (.ref x) ⋯) hx (v:=.ref e) rfl (show 5<100000 by decide) _ (cL (Lp.mk (xV rfl) (Lf.mk rfl (aR k)))))))
theorem p0_new{cnt:Nat}(F:Fs (fP x y G) lo)(hx:H[x]? =aa (.list (rdL gi n .none cnt ov)))(hy:H[y]? =aa (.list [.ref r0,lsV q]))(ne:x≠y)(k:K .next lo ((H.set x (.list (rdL gi n (.ref y) cnt ov))).set y (.list [.ref r0,.int (least q n)]))):pst lo H K:=by
 have gx:=F ("reader" :Str) (.ref x) ⋯
 have gy:=F ("now" :Str) (.ref y) ⋯
 refine eM (fD (bA (k7 gx hx (v:=.none) rfl (show 5<100000 by decide) _ (cL (Lp.mk (xV rfl) (Lf.mk rfl (aW (aI (oY (aY gy (show fY (eN "reader") (eK (nv 2)) (.ref y) lo H _ from aY gx (cL (stn hx (show 2<5 by decide) (show 5<100000 by decide) (aH ?_))))))))))))))
 have h1:(H.set x (.list (rdL gi n (.ref y) cnt ov)))[x]? =aa (.list (rdL gi n (.ref y) cnt ov)):=aG hx _
 have h2:=aJ (m':=MO.list (rdL gi n (.ref y) cnt ov)) hy ne
 refine(?_:aB _ _ lo (H.set x (.list (rdL gi n (.ref y) cnt ov))) K)
 revert h1 h2 k
 generalize H.set x (.list (rdL gi n (.ref y) cnt ov))=H1
 refine λk h1 h2=>(aI (oY (yS (fD (bA (k7 gy h2 rfl (show 2<100000 by decide) _ (cL (Lp.mk (xV (by cases q<;>rfl)) (Lf.mk rfl ?_)))))))))
 have hr:=k7 (k:=1) gx h1 rfl (show 5<100000 by decide)
 have fin:∀ {v:Int},v=least q n->fY (eN "now") (eK (nv 1)) (.int v) lo H1 (λlo' H2=>bN (sK .next) K .next lo' H2):=λ{v} e=>by
  exact rwL e (aY gy (cL (stn h2 (show 1<2 by decide) (show 2<100000 by decide) (aH k))))
 cases q with
 |none=>exact aW (hr _ (fin rfl))
 |some m=>exact aR (bV (aP (k7 gy h2 rfl (show 2<100000 by decide) _ (aP (hr _ (b8 (min_e (fin rfl))))))))
def DV(H:MH)(g:ae (ac Op))(v:V):Prop:=(g=none/\v= .none)\/∃ gs d,g=aa gs/\v= .ref d/\H[d]? =aa (.list (gs.map Op.v))
def mid(R:SF):SF:=aB (bX (rE "reader" 2) (cG 2 (asC (aN "rows") (asC (aN "least") asN)))) (aB (bF "groups" (aK (fJ X) (esC (aK (dK X) (esC (eN "rows") (esC (eN "least") esN))) (esC (rE "reader" 1) esN))))
 (aB (bF "due" (eIf (tE (aA oLt (rE "reader" 3) (aK cM (esC (eN "groups") esN)))) (aA aO (eN "groups") (rE "reader" 3)) (eK .none))) (aB (tI q8 (eN "reader") (eK (nv 3)) (eK (.int 1))) (aB (bX (aA (oIs id) (eN "due") (eK .none)) (fY (eN "reader") (eK (nv 4)))) R))))
theorem tup2_i(h:H[y]? =aa (.list [v,w]))(q:R (upd (upd lo "rows" v) "least" w) H):cG 2 (asC (aN "rows") (asC (aN "least") asN)) (.ref y) lo H R:=kch (B:=Lf (lst H (.ref y)) λvs=>vs.length=2/\(asC (aN "rows") (asC (aN "least") asN)) vs lo H R) ⋯ (Lf.mk (aT h) ⟨rfl,q⟩)
def fQ(x G:Nat)(d:V):ac (Str×V):=[("due",d),("reader",.ref x),("given",.ref G)]
theorem aCg{cnt:Nat}(n0:0<=n)(ok:EOk W)(F:Fs (fP x y G) lo)(hx:H[x]? =aa (.list (rdL gi n (.ref y') cnt ov)))(hy:H[y']? =aa (.list [.ref r0,lsV l']))(h0:H[r0]? =aa (.list (W.map Op.v)))(k:∀ {lo' H' d b},(∀ (i:Nat) (m:MO),i≠x->H[i]? =aa m->H'[i]? =aa m)->Fs (fQ x G d) lo'->DV H' (groups n (cW l' W))[cnt]? d->(∀ i,d= .ref i->H[i]? =none)->H'[x]? =aa (.list (rdL gi n (.ref y') (cnt+1) b))->b=(groups n (cW l' W))[cnt]?.isNone->R lo' H' K):mid X R lo H K:=by
 refine xAA (ok.cut l') λcb ca cl=>?_
 have gx:=F ("reader" :Str) (.ref x) ⋯
 refine aI (oY (k7 gx hx rfl (show 5<100000 by decide) _ (tup2_i hy (aH ?_))))
 have F1:=(F.cons "rows" (.ref r0)).cons "least" (lsV l')
 generalize upd (upd lo "rows" (.ref r0)) "least" (lsV l')=lo at F1
 have gx:=F1 ("reader" :Str) (.ref x) ⋯
 refine aI (d0 (bV (aP (bV (aP (aY (F1 _ (.ref r0) ⋯) (aP (aY (F1 _ (lsV l') ⋯) (b8 (wI X h0 (du ok.len (by decide)) ok.bal λ{H1 r1} x1 h1 f1=>(aP (k7 gx (x1 _ _ hx) rfl (show 5<100000 by decide) _ (b8 (v8 X n0 h1 (du cl (by decide)) cb ca λ{H2 r2 ps} x2 h2 b2 e2 f2 f3=>aH ?_))))))))))))))
 have F2:=F1.cons "groups" (.ref r2)
 generalize upd lo "groups" (.ref r2)=lo at F2
 have gx:=F2 ("reader" :Str) (.ref x) ⋯
 have hx2:=(x1.trans x2) _ _ hx
 have pl:ps.length<1000:=by
  have:=bg List.length e2
  rw[ay]at this
  exact Y117 cl this (qB (l:=cW l' W) n0)
 have hr3:=k7 (k:=3) gx hx2 rfl (show 5<100000 by decide)
 have vl:(ps.map rv).length=ps.length:=ay ..
 have due:∀ {P:V->MH->Prop},(∀ {d},DV H2 (groups n (cW l' W))[cnt]? d->(∀ i,d= .ref i->H[i]? =none)->P d H2)->eIf (tE (aA oLt (rE "reader" 3) (aK cM (esC (eN "groups") esN)))) (aA aO (eN "groups") (rE "reader" 3)) (eK .none) lo H2 P:=λ{P} k=>by
  refine yS (fD (bA (hr3 _ (lB (F2 _ (.ref r2) ⋯) (aT h2) (by exact rwL vl (Y85 pl)) _ (Lp.mk lt_e (Lf.mk rfl (rwL vl ?_)))))))
  rw[<-e2,gp]at k
  cases c:ps[cnt]? with
  |none=>
   have:=getElem?_eq_none_iff.mp c
   exact rwL (bc (Y116 this)) (aR ((c▸k) (.inl ⟨rfl,rfl⟩) nofun))
  |some p=>
   exact rwL (ao (Y66 ((List.getElem?_eq_some_iff.mp c).1))) (aW (bA (aY (F2 _ (.ref r2) ⋯) (hr3 _ (Lp.mk (ixn h2 (by rw[gp,c];rfl) (by exact rwL vl (Y85 pl))) ((c▸k) (.inr ⟨p.2,p.1,rfl,rfl,b2 p (dc c)⟩) λi e=>by cases e;exact x1.no (f3 p (dc c))))))))
 refine aI (d0 (due λ{d} D fd=>aH ?_))
 have F3:=F2.cons "due" d
 generalize upd lo "due" d=lo at F3
 have gx:=F3 ("reader" :Str) (.ref x) ⋯
 refine aI (show tI _ _ _ _ lo H2 _ from aY gx (cL (Lp.mk (ixn hx2 rfl (show 5<100000 by decide)) (cL (Lp.mk rfl (stn hx2 (show 3<5 by decide) (show 5<100000 by decide) (aH ?_)))))))
 have hx3:(H2.set x (.list (rdL gi n (.ref y') (cnt+1) ov)))[x]? =aa (.list (rdL gi n (.ref y') (cnt+1) ov)):=aG hx2 _
 have k3:∀ (i:Nat) (m:MO),i≠x->H2[i]? =aa m->(H2.set x (.list (rdL gi n (.ref y') (cnt+1) ov)))[i]? =aa m:=λi m q e=>aJ e q.symm
 refine(?_:aB _ _ lo (H2.set x (.list (rdL gi n (.ref y') (cnt+1) ov))) K)
 revert hx3 k3
 generalize H2.set x (.list (rdL gi n (.ref y') (cnt+1) ov))=H3
 intro hx3 k3
 have dn:d.no=isN d/\isN d=(groups n (cW l' W))[cnt]?.isNone:=by
  rcases D with ⟨e1,rfl⟩ |⟨g,i,e1,rfl,_⟩
  ·exact rwL e1 ⟨rfl,rfl⟩
  ·exact rwL e1 ⟨rfl,rfl⟩
 refine aI (oY (bA (aY (F3 _ d ⋯) (cL (Lp.mk (xV dn.1) (show fY (eN "reader") (eK (nv 4)) (.bool (isN d)) lo H3 _ from aY gx (cL (stn hx3 (show 4<5 by decide) (show 5<100000 by decide) (aH ?_)))))))))
 have dx:∀ i,d= .ref i->i≠x:=λi e q=>aE ((fd i e).symm.trans (q▸hx))
 refine k (λi m q e=>aJ (k3 _ _ q ((x1.trans x2) _ _ e)) q.symm) (F3.re (fQ x G d) ⋯) ?_ fd (aG hx3 _) dn.2
 rcases D with D |⟨g,i,e1,e2,h⟩
 ·exact .inl D
 ·exact .inr ⟨g,i,e1,e2,aJ (k3 _ _ (dx i e2) h) (dx i e2).symm⟩
def endS:SF:=aB (sIf (tE (aA (aS not) (eN "told") (eN "due"))) (aB (dX (eK (.bool af))) (sK .next)) (sK .next)) (aB (sIf (aX (tE (aA (oIs not) (eN "due") (eK .none))) (aX (tE (aA (aS id) (aA c6 (aA aL (rE "reader" 1) (rE "reader" 3)) (eK (.int 2))) (eK (.int 0)))) (tK ag))) (aB (aZ (cV (eN "given") (bD (esC (eN "told") (esC (eN "due") esN))))) (sK .next)) (aB (sIf (tE (aA (oIs not) (eN "due") (eK .none))) (aB (aZ (oQ (eN "told"))) (sK .next)) (sK .next)) (sK .next))) (aB (dX (eK (.bool ag))) (sK .next)))
theorem clr_i(hx:lo x=aa (.ref r))(h:H[r]? =aa (.list vs))(hl:vs.length<1000000)(q:K .next lo (H.set r (.list []))):aZ (oQ (eN x)) lo H K:=kch (B:=Lf (lo x) λv=>Lf v.rf λi=>Lf (H[i]?.bind MO.own) λvs=>vs.length<1000000/\K .next lo (H.set i (.list []))) ⋯ (Lf.mk hx (Lf.mk rfl (Lf.mk (gN h) ⟨hl,q⟩)))
theorem end_i{cnt:Nat}{b:dj}(F:Fs (("told",t)::fQ x G d) lo)(D:DV H g d)(D':DV H g t)(hx:H[x]? =aa (.list (rdL gi n (.ref y') (cnt+1) b)))(hG:H[G]? =aa (.list gvs))(gl:gvs.length<1000000)(gg:∀ l,g=aa l->l.length<1000000)(k0:t= .none->K (.ret (.bool ag)) lo H)(k1:∀ i j,t= .ref i->d= .ref j->(n+((cnt+1:Nat):Int))%2=0->K (.ret (.bool ag)) lo (H.set G (.list (gvs++[.tup [.ref i,.ref j]]))))(k2:∀ i,t= .ref i->(n+((cnt+1:Nat):Int))%2≠0->K (.ret (.bool ag)) lo (H.set i (.list []))):endS lo H K:=by
 have gt:=F ("told" :Str) t ⋯
 have gd:=F ("due" :Str) d ⋯
 have gx:=F ("reader" :Str) (.ref x) ⋯
 have gG:=F ("given" :Str) (.ref G) ⋯
 rcases D with ⟨e,rfl⟩ |⟨gs,j,e,rfl,hj⟩
 ·rcases D' with ⟨_,rfl⟩ |⟨gs',_,e',_,_⟩
  ·refine aI (qZ (aY gt (aY gd (no_i rfl (aH ?_)))))
   refine aI (eM (gK (fD (bA (aY gd (cL (Lp.mk (xW rfl) (Lf.mk (p:=af) rfl (aR (aR ?_))))))))))
   refine aI (eM (fD (bA (aY gd (cL (Lp.mk (xW rfl) (Lf.mk (p:=af) rfl (aR ?_))))))))
   exact k0 rfl
  ·rw[e]at e';cases e'
 ·rcases D' with ⟨e',rfl⟩ |⟨gs',i,e',rfl,hi⟩
  ·rw[e]at e';cases e'
  ·rw[e]at e'
   cases e'
   refine aI (qZ (aY gt (aY gd (no_i (jF Op.v dO (aT hi) (aT hj) (λo _=>qI o) λo _=>qJ o) (aH ?_)))))
   refine aI (eM (gK (fD (bA (aY gd (cL (Lp.mk (xW rfl) (Lf.mk (p:=ag) rfl (aW (gK (fD ?_)))))))))))
   have h5:5<100000:=by decide
   refine Evv.bin (.bin (.bin (k7 (k:=1) gx hx (v:=.int n) rfl h5) (k7 (k:=3) gx hx (v:=nv (cnt+1)) rfl h5) add_e) .k (kB (by decide))) .k yO _ (Lf.mk (p:=decide ((n+((cnt+1:Nat):Int))%2=0)) rfl ?_)
   by_cases z:(n+((cnt+1:Nat):Int))%2=0
   ·rw[ao z]
    refine aW (tk_i (aW (aI (sT gG hG (oO (aP (aY gt (aP (aY gd (b8 ⟨(by decide:2<100),sU hG gl ?_⟩))))))))))
    exact k1 i j rfl rfl z
   ·rw[bc z]
    refine aR (aR (aI (eM (fD (bA (aY gd (cL (Lp.mk (xW rfl) (Lf.mk (p:=ag) rfl (aW (aI (clr_i gt hi (by rw[ay];exact gg _ e) ?_))))))))))))
    exact k2 i rfl z
theorem GS.off{cnt:Nat}(G:GS H T s ers k gi n o cnt)(tg:T gi=(7,k))(hj:T j=(3,0)\/T j=(1,0))(kp:∀ (i:Nat) (m:MO),i≠j->H[i]? =aa m->H'[i]? =aa m):GS H' T s ers k gi n o cnt:=by
 have ne:∀ {i:Nat}{p:Nat×Nat},T i=p->p≠(3,0)->p≠(1,0)->i≠j:=λt n1 n2 q=>by
  subst q
  exact (t▸hj).elim n1 n2
 have kg:=λ{m}=>kp gi m (ne tg nofun nofun)
 cases G with
 |fresh g=>exact .fresh (kg g)
 |run he m0 mn g ti i tc hc p1 pl hb ho cn=>exact .run he m0 mn (kg g) ti (kp _ _ (ne ti nofun nofun) i) tc (kp _ _ (ne tc nofun nofun) hc) p1 pl hb ho cn
 |done he m0 mn g cn=>exact .done he m0 mn (g.imp (λz=>kg z) fun⟨lo,z⟩=>⟨lo,kg z⟩) cn
structure Aft(X:XX C)(H:MH)(T:Tags)(H':MH)(T':Tags)(s ra rb k e:Nat)(rcs ecs:ac Nat)(ers:ac Era)(w:Era)(l':ae Int)(r':Rdr):Prop where
 ta:TA H T T'
 kp:∀ (i:Nat) (m:MO),T i≠(6,k)->T i≠(7,k)->T i≠(8,k)->T i≠(5,0)->T i≠(10,e)->T i≠(9,e)->T i≠(3,0)->H[i]? =aa m->H'[i]? =aa m
 kg:∀ (i:Nat) (m:MO),T i=(3,0)->H[i]? =aa m->H'[i]? =aa m
 hr:∀ x,rcs[k]? =aa x->∃ gi,T' gi=(7,k)/\T' x=(6,k)/\H'[x]? =aa (.list (rdV ecs gi r'))/\GS H' T' s (ers.set e ⟨w.W,l'⟩) k gi r'.n r'.era r'.cnt
 ln:Nn l'
 hl:∀ m,w.lst=aa m->∃ m',l'=aa m'/\m'<=m/\∀ c,T c=(10,e)->H[c]? =aa (.list ((aV m w.W).map Op.v))->H'[c]? =aa (.list ((aV m' w.W).map Op.v))
 hy:∀ y r0,ecs[e]? =aa y->H[y]? =aa (.list [.ref r0,lsV w.lst])->H'[y]? =aa (.list [.ref r0,lsV l'])
 hm:∃ oc,MZ X H' T' s ra rb (cW l' w.W) e oc
 ht:∀ (c:Nat) (m:MO) (j:Nat),T' c=(10,j)->H'[c]? =aa m->j<ers.length
theorem Aft.fin{X:XX C}(A:Aft X H T H' T' s ra rb k e rcs ecs ers w l' r')(I:Inv X H T s R G E ra rb rcs ecs rs ers gn)(hk:rs[k]? =aa r)(he:ers.length=e+1)(hw:ers[e]? =aa w)(hn:r'.n=r.n)(hj:(T' j=(3,0))\/(T' j=(1,0)/\H[j]? =none))(kp:∀ (i:Nat) (m:MO),i≠j->H'[i]? =aa m->H2[i]? =aa m)(dn:∀ (i:Nat) (m:MO),H2[i]? =aa m->∃ m,H'[i]? =aa m)(hg:GvS H2 T' G gn'):Inv X H2 T' s R G E ra rb rcs ecs (rs.set k r') (ers.set e ⟨w.W,l'⟩) gn':=by
 have hj':=hj.imp id And.left
 have ne:∀ {i:Nat}{p:Nat×Nat},T' i=p->p≠(3,0)->p≠(1,0)->i≠j:=λt n1 n2 q=>by
  subst q
  exact (t▸hj').elim n1 n2
 refine I.pull hk he A.ta (λi m n1 n2 n3 n4 n5 n6 n7 q=>kp _ _ (λz=>?_) (A.kp i m n1 n2 n3 n4 n5 n6 n7 q)) hn (λx hx=>?_) hw rfl A.ln (λm q=>?_) (λy r0 q1 q2=>?_) ?_ hg λc m j q z=>xE (dn c m z) λm' z=>A.ht c m' j q z
 ·subst z
  rcases hj with z |⟨_,z⟩
  ·exact n7 ((A.ta _ _ q).symm.trans z)
  ·exact aE (z.symm.trans q)
 ·refine xEAAA (A.hr x hx) λgi t1 t2 h g=>?_
  exact⟨gi,t1,kp _ _ (ne t2 nofun nofun) h,g.off t1 hj' kp⟩
 ·obtain⟨m',z1,z2,z3⟩:=A.hl m q
  exact⟨m',z1,z2,λc t h=>kp _ _ (ne ((A.ta _ _ h).trans t) nofun nofun) (z3 c t h)⟩
 ·exact kp _ _ (ne ((A.ta _ _ q2).trans ((I.er e w y hw q1).1)) nofun nofun) (A.hy y r0 q1 q2)
 ·obtain⟨oc,M⟩:=A.hm
  exact⟨oc,M.to (λ_ _ _=>rfl) (λc m _ z=>dn c m z) λr m z q=>kp _ _ (λv=>by
   subst v
   rcases z with z |z |z
   ·exact (z▸hj').elim nofun nofun
   ·exact (z▸hj').elim (λq=>nomatch q.symm.trans M.ts) λq=>nomatch q.symm.trans M.ts
   ·exact ((M.tc _ z)▸hj').elim nofun nofun) q⟩
def Due(H:MH)(ers:ac Era)(n:Int)(e cnt:Nat)(v:V):Prop:=∃ W m,ers[e]? =aa ⟨W,aa m⟩/\DV H (groups n (aV m W))[cnt]? v
theorem aGy{cnt:Nat}(G:GS H T s ers k gi n (aa e) cnt)(n0:0<=n)(tgi:T gi=(7,k))(ok:∀ W m,ers[e]? =aa ⟨W,aa m⟩->Sg1 W/\W.length<=200)(kk:∀ {o:ae V}{H':MH},(∀ (i:Nat) (m:MO),T i≠(7,k)->T i≠(8,k)->H[i]? =aa m->H'[i]? =aa m)->GS H' T s ers k gi n (aa e) (cnt+1)->Due H' ers n e cnt (o.getD .none)->(∀ i,o=aa (.ref i)->H[i]? =none)->Q o H'):(gfn X).nx gi H Q:=by
 cases G with
 | @run _ c s' gr p it _ m W o he m0 mn g ti i tc hc p1 pl hb ho cn=>
  obtain⟨sg,wl⟩:=ok W m he
  have wn:W≠ []:=λq=>by
   subst q
   exact Y121 p1 pl
  have L:=hY n0 m0 mn sg wn
  have ed:=lC p1 hb ho
  rw[<-cn,<-L]at ed
  have ic:it≠c:=λq=>by subst q;exact nomatch ti.symm.trans tc
  have ig:it≠gi:=λq=>by subst q;exact nomatch ti.symm.trans tgi
  have gc:gi≠c:=λq=>by subst q;exact nomatch tgi.symm.trans tc
  have kp:∀ {H':MH},Ke H H' gi it->∀ (i:Nat) (m:MO),T i≠(7,k)->T i≠(8,k)->H[i]? =aa m->H'[i]? =aa m:=λke i m n1 n2 h=>ke i m (λq=>n1 (q▸tgi)) (λq=>n2 (q▸ti)) h
  refine aDn X (.loop g hc i pl (by rw[d5];exact Y120 wl) ⟨p1,hb,ho⟩) ic ig gc (λ{H'} e1 ke fin=>?_) λ{H' r g1 gs'} e1 ke h fr G1 hm=>?_
  ·rw[e1]at ed
   exact kk (kp ke) (.done he m0 mn (.inl fin) (je (mh.mp ed))) ⟨W,m,he,.inl ⟨eu (mh.mp ed),rfl⟩⟩ nofun
  ·rw[e1]at ed
   have at_:(groups n (aV m W))[cnt]? =aa g1:=by rw[<-rk,ed];rfl
   have dr:(groups n (aV m W)).drop (cnt+1)=gs':=by rw[<-vm,ed];rfl
   refine kk (kp ke) ?_ ⟨W,m,he,.inr ⟨g1,r,at_,rfl,h⟩⟩ λi q=>by cases q;exact fr
   cases G1 with
   |last g=>exact .done he m0 mn (.inr ⟨_,g⟩) (mh.mp dr)
   | @loop s2 gr2 p2 o2 g2 c2 i2 pl2 al2 hb2=>
    refine .run he m0 mn g2 ti i2 tc c2 hb2.1 pl2 hb2.2.1 hb2.2.2 ?_
    have l1:=bg List.length ((L▸(lC hb2.1 hb2.2.1 hb2.2.2)).trans dr.symm)
    rw[jg,jg]at l1
    exact Y119 ((List.getElem?_eq_some_iff.mp at_).1) l1 (xI (n:=n) (l:=aV m W) p2) (rwL L (yA (n:=n) (l:=aV m W) []))
 | @done _ _ m W he m0 mn g cn=>
  have D:∀ {H':MH},Due H' ers n e cnt .none:=λ{H'}=>⟨W,m,he,.inl ⟨eu cn,rfl⟩⟩
  rcases g with g |⟨lo,g⟩
  ·exact Lf.mk (uH g) (kk (λ_ _ _ _ h=>h) (.done he m0 mn (.inl g) (je cn)) D nofun)
  ·exact Lf.mk (uH g) (kk (λi m n1 n2 h=>aJ h λq=>n1 (q▸tgi)) (.done he m0 mn (.inl (aG g _)) (je cn)) D nofun)
theorem DV.at(D:DV H g d)(k:∀ (i:Nat) (m:MO),d= .ref i->H[i]? =aa m->H'[i]? =aa m):DV H' g d:=by
 rcases D with D |⟨gs,i,e1,e2,h⟩
 ·exact .inl D
 ·exact .inr ⟨gs,i,e1,e2,k _ _ e2 h⟩
theorem bH{T:Tags}(h:T i=p)(h':T j=q)(n:p≠q):i≠j:=λe=>n (h.symm.trans ((bg T e).trans h'))
def tf(it c k e a:Nat):Tags:=λi=>if i=it then(8,k) else if i=c then(10,e) else(a,0)
theorem tf_i{a:Nat}:tf it c k e a it=(8,k):=aw rfl
theorem tf_c{a:Nat}(h:it≠c):tf it c k e a c=(10,e):=(aq λq=>h q.symm).trans (aw rfl)
theorem tf_o{a:Nat}(h:i≠it)(h':i≠c):tf it c k e a i=(a,0):=(aq h).trans (aq h')
theorem tf_10{a:Nat}(ha:a<2)(h:tf it c k e a i=(10,j)):i=c/\j=e:=by
 unfold tf at h
 split at h
 ·cases h
 ·split at h
  ·exact cxP h ⟨by assumption,rfl⟩
  ·cases h;exact Y123 ha
structure At1(X:XX C)(H:MH)(T:Tags)(s R G E ra rb gn:Nat)(rcs ecs:ac Nat)(rs:ac Rdr)(ers:ac Era)(k e x y gi:Nat)(r:Rdr)(w:Era):Prop where
 I:Inv X H T s R G E ra rb rcs ecs rs ers gn
 hw:ers[e]? =aa w
 he:ers.length=e+1
 hy:ecs[e]? =aa y
 hk:rs[k]? =aa r
 hx:rcs[k]? =aa x
 tx:T x=(6,k)
 ty:T y=(9,e)
 tgi:T gi=(7,k)
 n0:0<=r.n
 xx:H[x]? =aa (.list (rdV ecs gi r))
structure Beg(H Hm:MH)(x y r0:Nat)(r:Rdr)(w:Era)(gi:Nat)(b:dj):Prop where
 km:∀ (i:Nat) (m:MO),i≠x->i≠y->H[i]? =aa m->Hm[i]? =aa m
 xm:Hm[x]? =aa (.list (rdL gi r.n (.ref y) 1 b))
 ym:Hm[y]? =aa (.list [.ref r0,.int (least w.lst r.n)])
 yy:H[y]? =aa (.list [.ref r0,lsV w.lst])
theorem Beg.fr{b:dj}(B:Beg H Hm x y r0 r w gi b){i:Nat}(h:Hm[i]? =none):H[i]? =none:=by
 cases z:H[i]? with
 |none=>rfl
 |some m=>
  by_cases q1:i=x
  ·subst q1;exact aE (h.symm.trans B.xm)
  ·by_cases q2:i=y
   ·subst q2;exact aE (h.symm.trans B.ym)
   ·exact aE (h.symm.trans (B.km _ _ q1 q2 z))
theorem Beg.aft{X:XX C}{a:Nat}{b:dj}(B:Beg H Hm x y r0 r w gi b)(A:At1 X H T s R G E ra rb gn rcs ecs rs ers k e x y gi r w)(ha:a<2)(M:MZ X H T s ra rb (cW w.lst w.W) e oc)(F:G1 X Hm H' gi s ra rb oc (aV r.n (cW w.lst w.W)) c it cd)(gs:GS H' (tg H T (tf it c k e a)) s (ers.set e ⟨w.W,aa (least w.lst r.n)⟩) k gi r.n (aa e) 1)(hxx:H'[x]? =aa (.list (rdL gi r.n (.ref y) 1 b)))(tc:tg H T (tf it c k e a) c=(10,e)):Aft X H T H' (tg H T (tf it c k e a)) s ra rb k e rcs ecs ers w (aa (least w.lst r.n)) ⟨r.n,aa e,1,b⟩:=by
 refine xA (A.I.eok A.hw) λok nn=>?_
 have ta:TA H T (tg H T (tf it c k e a)):=iJ
 have oce:∀ c',oc=aa c'->c'=c:=λc' q=>by
  rcases F.oc with z |⟨z,_⟩
  ·exact Option.some.inj (rwR q z)
  ·exact aE (q▸z).symm
 have st:=F.st
 rw[(qK A.n0 nn ok.sg)]at st
 obtain⟨ff,so⟩:=M.m.o
 have te:∀ {i j:Nat}{p:Nat×Nat},T j=p->T i≠p->i≠j:=λt n q=>n (q▸t)
 refine⟨ta,λi m n1 n2 n3 n4 n5 n6 n7 h=>(λi m n1 n2 n3 n4 n5 h=>F.kp _ _ n3 n4 n5 (B.km _ _ n1 n2 h)) i m (te A.tx n1) (te A.ty n6) (te A.tgi n2) (te M.ts n4) (λq=>n5 (M.tc _ q)) h,λi m t h=>(λi m n1 n2 n3 n4 n5 h=>F.kp _ _ n3 n4 n5 (B.km _ _ n1 n2 h)) i m (bH t A.tx nofun) (bH t A.ty nofun) (bH t A.tgi nofun) (bH t M.ts nofun) (λq=>nomatch (t.symm.trans (M.tc _ q))) h,λx' hx'=>?_,λm q=>by exact cxS q (rM A.n0 nn),λm q=>?_,λy' r0' q1 q2=>?_,⟨aa c,MZ.kept st ((ta _ _ so).trans M.ts) tc λc' m q z=>?_⟩,λc' m j q z=>?_⟩
 ·rw[A.hx]at hx'
  refine cxS hx' ?_
  obtain⟨mg,gx⟩:∃ m,H[gi]? =aa m:=by
   obtain⟨_,_,gi',_,h1,g⟩:=A.I.rd k r x A.hk A.hx
   have:gi'=gi:=by
    have:=h1.symm.trans A.xx
    cases this;rfl
   exact rwR this g.at_g
  exact⟨gi,(ta _ _ gx).trans A.tgi,(ta _ _ A.xx).trans A.tx,(rwL A.hy hxx:H'[x]? =aa (.list [.ref gi,.int r.n,.ref (ecs[e]?.getD 0),nv 1,.bool b])),gs⟩
 ·exact⟨least w.lst r.n,rfl,by exact rwL q (Y122:min m r.n<=m),λc' t h=>(rwL (oce c' (M.un c' _ t h)) st.at_c)⟩
 ·refine cyS (A.hy▸q1) λzq=>?_;subst zq
  have:=q2.symm.trans B.yy
  cases this
  exact (F.kp _ _ (bH A.ty A.tgi nofun) (bH A.ty M.ts nofun) (λq=>nomatch (A.ty.symm.trans (M.tc _ q))) B.ym)
 ·rcases eW q with ⟨⟨m',h⟩,t⟩ |⟨h,t⟩
  ·exact oce c' (M.un c' m' t h)
  ·exact(tf_10 ha t).1
 ·rcases eW q with ⟨⟨m',h⟩,t⟩ |⟨h,t⟩
  ·exact A.I.t10 c' m' j t h
  ·exact rwL ((tf_10 ha t).2) (Y114 A.he)
theorem aAh(h:W≠ []):fW W=W:=by
 cases W with
 |nil=>exact ba rfl h
 |cons o l=>rfl
structure Told(X:XX C)(H:MH)(T:Tags)(H6:MH)(T':Tags)(x a:Nat)(g:ae (ac Op))(d v:V)(vs:ac V):Prop where
 D:DV H6 g d
 D':DV H6 g v
 xx:H6[x]? =aa (.list vs)
 nv:∀ i,v= .ref i->T' i=(a,0)/\H[i]? =none
 nd:∀ i,d= .ref i->T' i=(a,0)/\H[i]? =none
theorem aG6{a:Nat}{b:dj}(A:At1 X H T s R G E ra rb gn rcs ecs rs ers k e x y gi r w)(hg:H[gi]? =aa (.gen (.fresh (loB ["self","n"] [.ref s,.int r.n] lo0))))(B:Beg H Hm x y r0 r w gi b)(ha:a<2)(D:DV Hm (groups r.n (cW (aa (least w.lst r.n)) w.W))[0]? d)(fd:∀ i,d= .ref i->H[i]? =none)(kk:∀ {o:ae V}{H6:MH}{T':Tags},Told X H T H6 T' x a (groups r.n (cW (aa (least w.lst r.n)) w.W))[0]? d (o.getD .none) (rdL gi r.n (.ref y) 1 b)->Aft X H T H6 T' s ra rb k e rcs ecs ers w (aa (least w.lst r.n)) ⟨r.n,aa e,1,b⟩->Q o H6):(gfn X).nx gi Hm Q:=by
 obtain⟨ok,nn⟩:=A.I.eok A.hw
 obtain⟨e',w',oc,h1,h2,M⟩:=A.I.cur
 have ee:=by exact Y125 h1 A.he
 rw[ee]at h2 M
 rw[A.hw]at h2
 refine cyS h2 λzq=>?_;subst zq
 have cl:=qK A.n0 nn ok.sg
 have ge:groups r.n (cW w.lst w.W)=groups r.n (cW (aa (least w.lst r.n)) w.W):=rV A.n0 nn ok.sg
 have l0:=rM A.n0 nn
 have ln:least w.lst r.n<=r.n:=aGr
 have eat:(ers.set e ⟨w.W,aa (least w.lst r.n)⟩)[e]? =aa ⟨w.W,aa (least w.lst r.n)⟩:=bn (by exact Y114 A.he:e<ers.length)
 have ne2:∀ {i:Nat}{p:Nat×Nat},T i=p->p≠(6,k)->p≠(9,e)->i≠x/\i≠y:=λt n1 n2=>⟨bH t A.tx n1,bH t A.ty n2⟩
 have Mm:Mst X Hm s ra rb (cW w.lst w.W) oc:=M.k Hm λi m z q=>by
  have:i≠x/\i≠y:=by
   rcases z with z |z |z
   ·exact ne2 z nofun nofun
   ·exact ne2 ((bg T z).trans M.ts) nofun nofun
   ·exact ne2 (M.tc _ z) nofun nofun
  exact B.km i m this.1 this.2 q
 obtain⟨ff,so⟩:=M.m.o
 have ocH:∀ {i:Nat},oc=aa i->∃ m,H[i]? =aa m:=λ{i} q=>by
  exact⟨_,(q▸M.m).at_c⟩
 have old:∀ {i c it cd:Nat}{H':MH},G1 X Hm H' gi s ra rb oc (aV r.n (cW w.lst w.W)) c it cd->H[i]? =none->(∃ m,Hm[i]? =aa m)->i≠it/\i≠c:=λ{i c it cd H'} F h1 h2=>by
  obtain⟨m,h2⟩:=h2
  refine⟨λq=>aE (F.itn.symm.trans (q▸h2)),λq=>?_⟩
  rcases F.oc with z |⟨_,z⟩
  ·obtain⟨m',z⟩:=ocH z
   rw[<-q,h1]at z
   exact aE z
  ·exact aE (z.symm.trans (q▸h2))
 have tcc:∀ {c it cd:Nat}{H':MH},G1 X Hm H' gi s ra rb oc (aV r.n (cW w.lst w.W)) c it cd->tg H T (tf it c k e a) c=(10,e):=λ{c it cd H'} F=>by
  rcases F.oc with z |⟨_,z⟩
  ·obtain⟨m,q⟩:=ocH z
   exact(iJ _ _ q).trans (M.tc _ z)
  ·exact(cY (B.fr z)).trans (tf_c F.io)
 have xk:∀ {c it cd:Nat}{H':MH},G1 X Hm H' gi s ra rb oc (aV r.n (cW w.lst w.W)) c it cd->H'[x]? =aa (.list (rdL gi r.n (.ref y) 1 b)):=λ{c it cd H'} F=>
  F.kp _ _ (bH A.tx A.tgi nofun) (bH A.tx M.ts nofun) (λq=>nomatch (A.tx.symm.trans (M.tc _ q))) B.xm
 have dk:∀ {c it cd:Nat}{H':MH},G1 X Hm H' gi s ra rb oc (aV r.n (cW w.lst w.W)) c it cd->DV H' (groups r.n (cW (aa (least w.lst r.n)) w.W))[0]? d:=λ{c it cd H'} F=>D.at λi m q h=>by
  have f:=fd i q
  refine F.kp _ _ (λz=>(aE (f.symm.trans (z▸hg)))) (λz=>?_) (λz=>?_) h
  ·exact aE (f.symm.trans (z▸so))
  ·obtain⟨m',z⟩:=ocH z
   exact aE (f.symm.trans z)
 have nd:∀ {c it cd:Nat}{H':MH},G1 X Hm H' gi s ra rb oc (aV r.n (cW w.lst w.W)) c it cd->∀ i,d= .ref i->tg H T (tf it c k e a) i=(a,0)/\H[i]? =none:=λ{c it cd H'} F i q=>by
  have f:=fd i q
  have:∃ m,Hm[i]? =aa m:=by
   rcases D with ⟨_,z⟩ |⟨gs,j,_,z,h⟩
   ·cases (z▸q)
   ·cases (z▸q);exact⟨_,h⟩
  exact⟨(cY f).trans (tf_o (old F f this).1 (old F f this).2),f⟩
 refine aAa X Mm (ok.cut _).2.2 (B.km _ _ (ne2 A.tgi nofun nofun).1 (ne2 A.tgi nofun nofun).2 hg) (λ{H' c it cd} e0 F fin=>?_) λ{H' r1 g1 gs c it cd} e1 F hr fr G1' hm ne=>?_
 ·rw[ge]at e0
  have z0:(groups r.n (cW (aa (least w.lst r.n)) w.W))[0]? =none:=by rw[e0];rfl
  exact kk ⟨dk F,.inl ⟨z0,rfl⟩,xk F,nofun,nd F⟩ (B.aft A ha M F (.done eat l0 ln (.inl fin) (by exact rwL (show aV (least w.lst r.n) w.W=cW (aa (least w.lst r.n)) w.W from rfl) (rwL e0 (gw _)))) (xk F) (tcc F))
 ·have W0:cW w.lst w.W≠ []:=λq=>by
   rw[q,hV A.n0]at e1
   exact nomatch e1
  have Wn:w.W≠ []:=λq=>W0 (by
   rw[q]
   cases w.lst with
   |none=>rfl
   |some m=>rfl)
  rw[aAh W0,show gO r.n (kH r.n (cW w.lst w.W))=aV r.n (cW w.lst w.W) from aEm (aa r.n) _,cl]at G1'
  rw[ge]at e1
  have z0:(groups r.n (cW (aa (least w.lst r.n)) w.W))[0]? =aa g1:=by rw[e1];rfl
  have cc:cd=c:=by
   rcases F.cdn with z |z
   ·exact z
   ·have:=bg List.length z
    rw[d5]at this
    exact ba (List.length_eq_zero_iff.mp this) W0
  refine kk ⟨dk F,.inr ⟨g1,r1,z0,rfl,hr⟩,xk F,λi q=>by cases q;exact⟨(cY (B.fr fr)).trans (tf_o ne.2 ne.1),(B.fr fr)⟩,nd F⟩ (B.aft A ha M F ?_ (xk F) (tcc F))
  have L:=hY A.n0 l0 ln ok.sg Wn
  have e1:groups r.n (aV (least w.lst r.n) w.W)=g1::gs:=e1
  cases G1' with
  |last g=>exact .done eat l0 ln (.inr ⟨_,g⟩) (by exact rwL e1 (ce 1))
  | @loop s2 gr2 p2 o2 g2 c2 i2 pl2 al2 hb2=>
   subst cc
   refine .run eat l0 ln g2 ((cY (B.fr F.itn)).trans tf_i) i2 (tcc F) c2 hb2.1 pl2 hb2.2.1 hb2.2.2 ?_
   have ed2:=lC hb2.1 hb2.2.1 hb2.2.2
   have l3:=yA (n:=r.n) (l:=aV (least w.lst r.n) w.W) []
   rw[<-L,e1]at ed2 l3
   have l1:=bg List.length ed2
   rw[jg]at l1
   rw[cq]at l1 l3
   exact Y124 l3 l1 (xI (n:=r.n) (l:=aV (least w.lst r.n) w.W) p2)
theorem aBx{a:Nat}{b:dj}(A:At1 X H T s R G E ra rb gn rcs ecs rs ers k e x y gi r w)(ha:a<2)(hr:r.era=aa e')(hG:GS H T s ers k gi r.n (aa e') r.cnt)(hy':ecs[e']? =aa y')(km:∀ (i:Nat) (m:MO),i≠x->H[i]? =aa m->Hm[i]? =aa m)(xm:Hm[x]? =aa (.list (rdL gi r.n (.ref y') (r.cnt+1) b)))(he':ers[e']? =aa ⟨W,aa m⟩)(D:DV Hm (groups r.n (aV m W))[r.cnt]? d)(fd:∀ i,d= .ref i->H[i]? =none)(kk:∀ {o:ae V}{H6:MH},Told X H T H6 (tg H T λ_=>(a,0)) x a (groups r.n (aV m W))[r.cnt]? d (o.getD .none) (rdL gi r.n (.ref y') (r.cnt+1) b)->Aft X H T H6 (tg H T λ_=>(a,0)) s ra rb k e rcs ecs ers w w.lst ⟨r.n,aa e',r.cnt+1,b⟩->Q o H6):(gfn X).nx gi Hm Q:=by
 have ta:TA H T (tg H T λ_=>(a,0)):=iJ
 obtain⟨e0,w0,oc,e1,e2,M⟩:=A.I.cur
 obtain⟨mg,gx⟩:=hG.at_g
 have tg':=(ta _ _ gx).trans A.tgi
 refine aGy X (hG.to A.n0 ta (λm q=>km _ _ (bH A.tgi A.tx nofun) q) (λi m t q=>km _ _ (bH t A.tx nofun) q) λe1 W1 m1 q=>⟨(A.I.eok q).1.sg,m1,q,(A.I.eok q).2 m1 rfl,Int.le_refl m1,λc t h=>km _ _ (bH t A.tx nofun) h⟩) A.n0 tg' (λW1 m1 q=>⟨(A.I.eok q).1.sg,(A.I.eok q).1.len⟩) λ{o H6} kp6 g6 due fr=>?_
 have kp:∀ {i:Nat}{m:MO},T i≠(6,k)->T i≠(7,k)->T i≠(8,k)->H[i]? =aa m->H6[i]? =aa m:=λ{i m} n1 n2 n3 h=>kp6 i m (λq=>n2 ((ta _ _ h).symm.trans q)) (λq=>n3 ((ta _ _ h).symm.trans q)) (km _ _ (λq=>n1 (q▸A.tx)) h)
 have kt:∀ {i:Nat}{m:MO}{p:Nat×Nat},T i=p->p≠(6,k)->p≠(7,k)->p≠(8,k)->H[i]? =aa m->H6[i]? =aa m:=λ{i m p} t n1 n2 n3 h=>kp (t▸n1) (t▸n2) (t▸n3) h
 have tx':=(ta _ _ A.xx).trans A.tx
 have x6:=kp6 _ _ (by rw[tx'];nofun) (by rw[tx'];nofun) xm
 have frH:∀ {i:Nat},Hm[i]? =none->H[i]? =none:=λ{i} h=>by
  cases z:H[i]? with
  |none=>rfl
  |some m=>
   by_cases q1:i=x
   ·subst q1;exact aE (h.symm.trans xm)
   ·exact aE (h.symm.trans (km _ _ q1 z))
 have es:ers.set e ⟨w.W,w.lst⟩=ers:=by
  obtain⟨l,h⟩:=List.getElem?_eq_some_iff.mp A.hw
  exact rwR h (List.set_getElem_self l)
 have na:∀ {p:Nat},((a,0):Nat×Nat)=(10,p)->fe:=λq=>by
  exact Y133 ha (bg Prod.fst q)
 have a7:∀ {p:Nat×Nat},7<=p.1->((a,0):Nat×Nat)≠p:=λh q=>by
  exact Y132 ha h (bg Prod.fst q)
 obtain⟨W',m',h',D'⟩:=due
 have:=he'.symm.trans h'
 cases this
 refine kk ⟨D.at λi m q h=>?_,D',x6,λi q=>?_,λi q=>?_⟩ ⟨ta,λi m n1 n2 n3 n4 n5 n6 n7 h=>kp n1 n2 n3 h,λi m t h=>kt t nofun nofun nofun h,λx' q=>?_,(A.I.eok A.hw).2,λm q=>⟨m,q,Int.le_refl m,λc t h=>kt t nofun nofun nofun h⟩,λy1 r0 q h=>?_,?_,λc m j q z=>?_⟩
 ·have t:=cY (T:=T) (f:=λ_=>(a,0)) (fd i q)
  exact kp6 i m (by exact rwL t (a7 (show 7<=7 by decide))) (by exact rwL t (a7 (show 7<=8 by decide))) h
 ·have f:o=aa (.ref i):=by
   cases o with
   |none=>cases q
   |some v=>exact bg aa q
  have:=frH (fr i f)
  exact⟨cY this,this⟩
 ·exact⟨cY (fd i q),(fd i q)⟩
 ·rw[A.hx]at q
  exact cxS q ⟨gi,tg',tx',(rwL hy' x6:H6[x]? =aa (.list [.ref gi,.int r.n,.ref (ecs[e']?.getD 0),nv (r.cnt+1),.bool b])),by exact rwL es g6⟩
 ·refine cyS (A.hy▸q) λzq=>?_;subst zq
  exact kt A.ty nofun nofun nofun h
 ·rw[(by exact Nat.succ.inj (e1.symm.trans A.he):e0=e)]at e2 M
  refine cyS (A.hw▸e2) λzq=>?_;subst zq
  refine⟨oc,M.to ta (λc m q _=>?_) λi m z h=>?_⟩
  ·rcases eW q with ⟨z,_⟩ |⟨_,z⟩
   ·exact z
   ·exact(na z).elim
  ·rcases z with z |z |z
   ·exact kt z nofun nofun nofun h
   ·exact kt ((bg T z).trans M.ts) nofun nofun nofun h
   ·exact kt (M.tc _ z) nofun nofun nofun h
 ·rcases eW q with ⟨⟨m',h⟩,t⟩ |⟨h,t⟩
  ·exact A.I.t10 c m' j t h
  ·exact(na t).elim
theorem aBk(i:Nat)(m:MO)(h:(H.set j m0)[i]? =aa m):∃ m,H[i]? =aa m:=by
 exact⟨_,az (rwR jj ((List.getElem?_eq_some_iff.mp h).1))⟩
theorem aG0:∀ (cur:ac Op),∀ g∈grps n cur l,g.length<=cur.length+l.length:=by
 induction l with
 |nil=>
  intro cur g hg
  rw[hU]at hg
  cases e:iK cur with
  |true=>cases cy.mp (e▸hg);exact ce _
  |false=>exact ba (e▸hg) fg
 |cons o l ih=>
  intro cur g hg
  rw[d4]at hg
  rw[cq]
  cases e:bE n o with
  |true=>
   rw[e]at hg
   rcases ez.mp hg with rfl |hg
   ·exact rwL am (rwL bo Y131)
   ·exact Y130 (rwR bo (ih _ g hg))
  |false=>
   have:=ih _ g (e▸hg)
   rw[am,bo]at this
   exact Y129 this
theorem zY(n0:0<=n)(h:g∈groups n l):g.length<=l.length:=by
 cases l with
 |nil=>exact ba (rwR (hV n0) h) fg
 |cons o l=>
  have:=aG0 _ g (rwR (iZ (gj _ _)) h)
  rw[d5,pu]at this
  exact Y128 this
theorem aDv{X:XX C}{a:Nat}{b:dj}(A:At1 X H T s R G E ra rb gn rcs ecs rs ers k e x y gi r w)(T6:Told X H T H6 T' x a g d v (rdL gi r.n (.ref y') (r.cnt+1) b))(Af:Aft X H T H6 T' s ra rb k e rcs ecs ers w l' ⟨r.n,aa e',r.cnt+1,b⟩)(F:Fs (("told",v)::fQ x G d) lo)(ha:a=((r.n+((r.cnt+1:Nat):Int))%2).toNat)(gl:gn<900000)(gb:∀ l,g=aa l->l.length<1000000)(kk:∀ {H' gn'},(∀ (i:Nat) (m:MO),T i=(0,0)->H[i]? =aa m->H'[i]? =aa m)->Inv X H' T' s R G E ra rb rcs ecs (rs.set k ⟨r.n,aa e',r.cnt+1,b⟩) (ers.set e ⟨w.W,l'⟩) gn'->gn'<=gn+1->K (.ret (.bool ag)) lo H'):endS lo H6 K:=by
 refine xEAAA A.I.gv λps h1 t1 l1 p1=>?_
 have hG:=Af.kg _ _ t1 h1
 have tG:=(Af.ta _ _ h1).trans t1
 have k0:∀ {i:Nat}{m:MO},T i=(0,0)->H[i]? =aa m->H6[i]? =aa m:=λt h=>Af.kp _ _ (t▸nofun) (t▸nofun) (t▸nofun) (t▸nofun) (t▸nofun) (t▸nofun) (t▸nofun) h
 have p6:∀ p∈ps,T' p.1=(0,0)/\T' p.2=(0,0)/\∃ g:ac Op,H6[p.1]? =aa (.list (g.map Op.v))/\H6[p.2]? =aa (.list (g.map Op.v)):=λp hp=>by
  obtain⟨q1,q2,g,g1,g2⟩:=p1 p hp
  exact⟨(Af.ta _ _ g1).trans q1,(Af.ta _ _ g2).trans q2,g,k0 q1 g1,k0 q2 g2⟩
 refine end_i F T6.D T6.D' T6.xx hG (by rw[ay];exact Y127 gl l1) gb (λq=>(kk (λi m t h=>k0 t h) (Af.fin A.I A.hk A.he A.hw rfl (.inl tG) (λ_ _ _ h=>h) (λ_ m h=>⟨m,h⟩) ⟨ps,hG,tG,l1,p6⟩) (lw gn))) (λi j q1 q2 z=>?_) λi q z=>?_
 ·have a0:a=0:=by rw[ha,z];rfl
  have tn:=λ{i:Nat} (p:T' i=(0,0))=>(bH p tG nofun:i≠G)
  have ti:=(T6.nv i q1).1
  have tj:=(T6.nd j q2).1
  rw[a0]at ti tj
  refine kk (λi m t h=>aJ (k0 t h) (bH t t1 nofun).symm) (Af.fin A.I A.hk A.he A.hw rfl (.inl tG) (λ_ _ n h=>aJ h n.symm) aBk ⟨ps++[(i,j)],rwL cz (aG hG _),tG,by rw[am,l1,bo],λp hp=>?_⟩) (ce _)
  ·rcases ij.mp hp with hp |hp
   ·obtain⟨q1,q2,g,g1,g2⟩:=p6 p hp
    exact⟨q1,q2,g,aJ g1 (tn q1).symm,aJ g2 (tn q2).symm⟩
   ·refine rwL (cy.mp hp) ?_
    rcases T6.D with ⟨_,z⟩ |⟨gs,j',g1,g2,g3⟩
    ·cases (z▸q2)
    ·rcases T6.D' with ⟨_,z⟩ |⟨gs',i',g1',g2',g3'⟩
     ·cases (z▸q1)
     ·cases (q1▸g2')
      cases (q2▸g2)
      refine cyS (g1▸g1') λzq=>?_;subst zq
      exact⟨ti,tj,gs,aJ g3' (tn ti).symm,aJ g3 (tn tj).symm⟩
 ·have a1:=Y126 ha z zzN zzL
  have ti:=T6.nv i q
  rw[a1]at ti
  have tn:=λ{j:Nat}{p:Nat×Nat} (t:T' j=p) (n:p≠(1,0))=>(bH t ti.1 n:j≠i)
  refine kk (λi' m t h=>aJ (k0 t h) λq=>aE (ti.2.symm.trans (q▸h))) (Af.fin A.I A.hk A.he A.hw rfl (.inr ti) (λ_ _ n h=>aJ h n.symm) aBk ⟨ps,aJ hG (tn tG (λh=>ba h (by decide))).symm,tG,l1,λp hp=>?_⟩) (lw gn)
  obtain⟨q1,q2,g,g1,g2⟩:=p6 p hp
  exact⟨q1,q2,g,aJ g1 (tn q1 nofun).symm,aJ g2 (tn q2 nofun).symm⟩
structure Pul(r r':Rdr):Prop where
 n:r'.n=r.n
 c:r'.cnt=r.cnt+1
 o:201<=r.cnt->r'.ov=ag
theorem md_2(z:Int):(z%2).toNat<2:=Y135 zzN zzL
theorem aGh{l:ac (ac Op)}(h:l.length<=201)(k1:201<=k):l[k]?.isNone=ag:=by rw[eu (Nat.le_trans h k1)];rfl
theorem zL(I:Inv X H T s R G E ra rb rcs ecs rs ers gn)(hk:rs[k]? =aa r)(hx:rcs[k]? =aa x)(he:ers.length=e+1)(hy:ecs[e]? =aa y)(gl:gn<900000)(kk:∀ {H' T' r' ers' gn'},TA H T T'->(∀ (i:Nat) (m:MO),T i=(0,0)->H[i]? =aa m->H'[i]? =aa m)->Inv X H' T' s R G E ra rb rcs ecs (rs.set k r') ers' gn'->ers'.length=ers.length->gn'<=gn+1->Pul r r'->Q (.bool ag) H'):eJ X [.ref x,.ref y,.ref G] H Q:=by
 refine⟨rfl,?_⟩
 have F:Fs (fP x y G) (loB ["reader","now","given"] [.ref x,.ref y,.ref G] lo0):=((((Fs.cons (l:=[]) nofun "reader" (.ref x)).cons "now" (.ref y)).cons "given" (.ref G))).re _ ⋯
 show aB pst (mid X (aB (bF "told" (aK (y0 (gfn X)) (esC (rE "reader" 0) (esC (eK .none) esN)))) endS)) (loB ["reader","now","given"] [.ref x,.ref y,.ref G] lo0) H (kY Q)
 revert F
 generalize loB ["reader","now","given"] [.ref x,.ref y,.ref G] lo0=lo
 intro F
 have el:e<ers.length:=by exact Y114 he
 have hw:ers[e]? =aa ers[e]:=az el
 revert hw
 generalize ers[e]=w
 intro hw
 obtain⟨ok,nn⟩:=I.eok hw
 obtain⟨tx,n0,gi,tgi,xx,gs⟩:=I.rd k r x hk hx
 obtain⟨ty,_,_,r0,t0,yy,h0⟩:=I.er e w y hw hy
 have A:At1 X H T s R G E ra rb gn rcs ecs rs ers k e x y gi r w:=⟨I,hw,he,hy,hk,hx,tx,ty,tgi,n0,xx⟩
 obtain⟨a,ha⟩:∃ a,a=((r.n+((r.cnt+1:Nat):Int))%2).toNat:=⟨_,rfl⟩
 have a2:a<2:=ha▸md_2 _
 have fs:∀ {lo1:Lo}{d v:V},Fs (fQ x G d) lo1->Fs (("told",v)::fQ x G d) (upd lo1 "told" v):=λF=>F.cons "told" _
 have gb:∀ {l:ac Op}{j:Nat},l.length<=200->∀ g,(groups r.n l)[j]? =aa g->g.length<1000000:=λh g q=>by
  have:=zY n0 (dc q)
  exact Y134 h this
 have gl2:∀ {l:ac Op},l.length<=200->(groups r.n l).length<=201:=λh=>Nat.le_trans (qB n0) (kh h)
 have h5:5<100000:=by decide
 have ls:∀ {e':Nat}{v:Era},(ers.set e' v).length=ers.length:=jj
 cases ro:r.era with
 |none=>
  rw[ro]at gs
  have xx':H[x]? =aa (.list (rdL gi r.n .none r.cnt r.ov)):=by rw[xx];unfold rdV;rw[ro];rfl
  have c0:r.cnt=0/\H[gi]? =aa (.gen (.fresh (loB ["self","n"] [.ref s,.int r.n] lo0))):=by
   revert gs
   generalize r.cnt=c
   intro gs
   cases gs with
   |fresh g=>exact⟨rfl,g⟩
  have l0:=rM n0 nn
  have cb:=ok.cut (aa (least w.lst r.n))
  have xy:x≠y:=bH tx ty nofun
  refine aI (p0_new F xx' yy xy (aH ?_))
  have hx1:=aJ (m':=MO.list [V.ref r0,.int (least w.lst r.n)]) (aG xx' (MO.list (rdL gi r.n (.ref y) r.cnt r.ov))) xy.symm
  have hy1:=aG (aJ (m':=MO.list (rdL gi r.n (.ref y) r.cnt r.ov)) yy xy) (MO.list [V.ref r0,.int (least w.lst r.n)])
  have k1:∀ (i:Nat) (m:MO),i≠x->i≠y->H[i]? =aa m->((H.set x (.list (rdL gi r.n (.ref y) r.cnt r.ov))).set y (.list [.ref r0,.int (least w.lst r.n)]))[i]? =aa m:=λi m n1 n2 h=>aJ (aJ h n1.symm) n2.symm
  have d1:∀ i:Nat,((H.set x (.list (rdL gi r.n (.ref y) r.cnt r.ov))).set y (.list [.ref r0,.int (least w.lst r.n)]))[i]? =none->H[i]? =none:=λi h=>by
   rw[getElem?_eq_none_iff,jj,jj]at h
   exact eu h
  show mid X _ lo ((H.set x (.list (rdL gi r.n (.ref y) r.cnt r.ov))).set y (.list [.ref r0,.int (least w.lst r.n)])) _
  revert hx1 hy1 k1 d1
  generalize (H.set x (.list (rdL gi r.n (.ref y) r.cnt r.ov))).set y (.list [.ref r0,.int (least w.lst r.n)])=H1
  intro hx1 hy1 k1 d1
  refine aCg X (l':=aa (least w.lst r.n)) n0 ok F hx1 hy1 (k1 _ _ (bH t0 tx nofun) (bH t0 ty nofun) h0) λ{lo2 H2 d b} k2 F2 D fd hx2 eb=>?_
  refine aI (d0 (bV (aP (k7 (k:=0) (F2 _ (.ref x) ⋯) hx2 (v:=.ref gi) rfl h5 _ (aP (cL (b8 (show(gfn X).nx gi H2 _ from ?_))))))))
  rw[c0.1]at D hx2 eb
  refine aG6 X A c0.2 ⟨λi m n1 n2 h=>k2 i m n1 (k1 i m n1 n2 h),hx2,k2 _ _ xy.symm hy1,yy⟩ a2 D (λi q=>d1 i (fd i q)) λ{o H6 T'} T6 Af=>aH ?_
  refine aDv (e':=e) A (b:=b) (by rw[c0.1];exact T6) (by rw[c0.1];exact Af) (fs F2) ha gl (gb cb.2.2) λ{H' gn'} kz I' g'=>?_
  exact kk Af.ta kz I' ls g' ⟨rfl,rfl,λh=>by rw[c0.1]at h;exact ba h (by decide)⟩
 |some e'=>
  rw[ro]at gs
  obtain⟨W,m,he'⟩:∃ W m,ers[e']? =aa ⟨W,aa m⟩:=by
   cases gs with
   |run he'=>exact⟨_,_,he'⟩
   |done he'=>exact⟨_,_,he'⟩
  have el':=(List.getElem?_eq_some_iff.mp he').1
  rw[<-I.lE]at el'
  have hy':ecs[e']? =aa ecs[e']:=az el'
  revert hy'
  generalize ecs[e']=y'
  intro hy'
  obtain⟨ok',nn'⟩:=I.eok he'
  obtain⟨ty',_,_,r0',t0',yy',h0'⟩:=I.er e' _ y' he' hy'
  have xx':H[x]? =aa (.list (rdL gi r.n (.ref y') r.cnt r.ov)):=by
   rw[xx];unfold rdV;rw[ro]
   show aa (MO.list [.ref gi,.int r.n,.ref (ecs[e']?.getD 0),nv r.cnt,.bool r.ov])=_
   rw[hy'];rfl
  have cb:=ok'.cut (aa m)
  refine aI (p0_old F xx' (aH (aCg X (l':=aa m) (W:=W) n0 ok' F xx' yy' h0' λ{lo2 H2 d b} k2 F2 D fd hx2 eb=>?_)))
  refine aI (d0 (bV (aP (k7 (k:=0) (F2 _ (.ref x) ⋯) hx2 (v:=.ref gi) rfl h5 _ (aP (cL (b8 (show(gfn X).nx gi H2 _ from ?_))))))))
  refine aBx X A a2 ro gs hy' k2 hx2 he' D fd λ{o H6} T6 Af=>aH ?_
  refine aDv (e':=e') A (b:=b) T6 Af (fs F2) ha gl (gb cb.2.2) λ{H' gn'} kz I' g'=>?_
  exact kk Af.ta kz I' ls g' ⟨rfl,rfl,λh=>by show b=ag;rw[eb];exact aGh (gl2 cb.2.2) h⟩
theorem GS.era{cnt:Nat}(G:GS H T s ers k gi n (aa e) cnt):e<ers.length:=by
 cases G with
 |run he=>exact(List.getElem?_eq_some_iff.mp he).1
 |done he=>exact(List.getElem?_eq_some_iff.mp he).1
theorem Inv.grow{X:XX C}{nE:ac Nat}(I:Inv X H T s R G E ra rb rcs ecs rs ers gn)(ta:TA H T T')(kp:∀ (i:Nat) (m:MO),T i≠(5,0)->T i≠(2,0)->T i≠(4,0)->H[i]? =aa m->H'[i]? =aa m)(lR:nc.length=nr.length)(lE:nE.length=ne.length)(hR:H'[R]? =aa (.list ((rcs++nc).map V.ref)))(hE:H'[E]? =aa (.list ((ecs++nE).map V.ref)))(rd:∀ (j:Nat) (r:Rdr) (x:Nat),nr[j]? =aa r->nc[j]? =aa x->T' x=(6,rs.length+j)/\0<=r.n/\∃ gi,T' gi=(7,rs.length+j)/\H'[x]? =aa (.list (rdV (ecs++nE) gi r))/\GS H' T' s (ers++ne) (rs.length+j) gi r.n r.era r.cnt)(er:∀ (j:Nat) (w:Era) (x:Nat),ne[j]? =aa w->nE[j]? =aa x->T' x=(9,ers.length+j)/\EOk w.W/\Nn w.lst/\∃ r,T' r=(0,0)/\H'[x]? =aa (.list [.ref r,lsV w.lst])/\H'[r]? =aa (.list (w.W.map Op.v)))(cur:∃ (e:Nat) (w:Era) (oc:ae Nat),(ers++ne).length=e+1/\(ers++ne)[e]? =aa w/\MZ X H' T' s ra' rb' (cW w.lst w.W) e oc)(ls:∃ a b:ac Int,T' ra'=(0,0)/\T' rb'=(0,0)/\IL H' ra' a/\IL H' rb' b/\a.length<=88/\b.length<=88)(t10:∀ (c:Nat) (m:MO) (j:Nat),T' c=(10,j)->H'[c]? =aa m->j<(ers++ne).length):Inv X H' T' s R G E ra' rb' (rcs++nc) (ecs++nE) (rs++nr) (ers++ne) gn:=by
 have kt:∀ {i:Nat}{m:MO}{p:Nat×Nat},T i=p->p≠(5,0)->p≠(2,0)->p≠(4,0)->H[i]? =aa m->H'[i]? =aa m:=λ{i m p} t n1 n2 n3 h=>kp i m (t▸n1) (t▸n2) (t▸n3) h
 have eOld:∀ {e:Nat}{w:Era},ers[e]? =aa w->(ers++ne)[e]? =aa w:=λ{e w} h=>by
  exact rwL (dl (List.getElem?_eq_some_iff.mp h).1) h
 refine⟨hR,(ta _ _ I.hR).trans I.tR,by rw[am,am,I.lR,lR],λk r x q1 q2=>?_,hE,(ta _ _ I.hE).trans I.tE,by rw[am,am,I.lE,lE],λe w x q1 q2=>?_,cur,?_,ls,t10⟩
 ·rcases mw k rs.length with z |z
  ·obtain⟨t1,n0,gi,t2,h1,g⟩:=I.rd k r x (rwR (dl z) q1) (rwR (dl (by exact rwL I.lR z)) q2)
   obtain⟨mg,gx⟩:=g.at_g
   have e1:rdV (ecs++nE) gi r=rdV ecs gi r:=by
    delta rdV
    cases ro:r.era with
    |none=>rfl
    |some e=>
     refine(?_:[V.ref gi,.int r.n,.ref ((ecs++nE)[e]?.getD 0),nv r.cnt,.bool r.ov]= [V.ref gi,.int r.n,.ref (ecs[e]?.getD 0),nv r.cnt,.bool r.ov])
     rw[dl (rwL I.lE (ro▸g).era)]
   refine⟨(ta _ _ h1).trans t1,n0,gi,(ta _ _ gx).trans t2,by exact rwL e1 (kt t1 nofun nofun nofun h1),g.to n0 ta (λm q=>kt t2 nofun nofun nofun q) (λi m t q=>kt t nofun nofun nofun q) λe W m q=>⟨(I.eok q).1.sg,m,eOld q,(I.eok q).2 m rfl,Int.le_refl m,λc t q=>kt t nofun nofun nofun q⟩⟩
  ·rw[dg (by exact rwL I.lR z),I.lR]at q2
   exact (rwR (Nat.add_sub_cancel' z) (rd _ r x (rwR (dg z) q1) q2))
 ·rcases mw e ers.length with z |z
  ·obtain⟨t1,ok,nn,r0,t0,h1,h2⟩:=I.er e w x (rwR (dl z) q1) (rwR (dl (by exact rwL I.lE z)) q2)
   exact⟨(ta _ _ h1).trans t1,ok,nn,r0,(ta _ _ h2).trans t0,kt t1 nofun nofun nofun h1,kt t0 nofun nofun nofun h2⟩
  ·rw[dg (by exact rwL I.lE z),I.lE]at q2
   exact (rwR (Nat.add_sub_cancel' z) (er _ w x (rwR (dg z) q1) q2))
 ·refine xEAAA I.gv λps h1 h2 h3 h4=>?_
  exact⟨ps,kt h2 nofun nofun nofun h1,(ta _ _ h1).trans h2,h3,λp hp=>let ⟨t1,t2,g,g1,g2⟩:=h4 p hp;⟨(ta _ _ g1).trans t1,(ta _ _ g2).trans t2,g,kt t1 nofun nofun nofun g1,kt t2 nofun nofun nofun g2⟩⟩
theorem Inv.ls'{X:XX C}(I:Inv X H T s R G E ra rb rcs ecs rs ers gn)(ta:TA H T T')(kp:∀ (i:Nat) (m:MO),T i=(0,0)->H[i]? =aa m->H'[i]? =aa m):∃ a b:ac Int,T' ra=(0,0)/\T' rb=(0,0)/\IL H' ra a/\IL H' rb b/\a.length<=88/\b.length<=88:=by
 obtain⟨a,b,t1,t2,h1,h2,h3⟩:=I.ls
 exact⟨a,b,(ta _ _ h1).trans t1,(ta _ _ h2).trans t2,kp _ _ t1 h1,kp _ _ t2 h2,h3⟩
theorem Inv.ask{X:XX C}(I:Inv X H T s R G E ra rb rcs ecs rs ers gn)(he:ers.length=e+1)(hw:ers[e]? =aa w)(kk:∀ {H' T' c},TA H T T'->(∀ (i:Nat) (m:MO),T i≠(5,0)->H[i]? =aa m->H'[i]? =aa m)->H'[c]? =aa (.list ((cW w.lst w.W).map Op.v))->Inv X H' T' s R G E ra rb rcs ecs rs ers gn->Q (.ref c) H'):aU X [.ref s] H Q:=by
 obtain⟨e0,w0,oc,e1,e2,M⟩:=I.cur
 rw[(Y137 he e1)]at e2 M
 refine cyS (hw▸e2) λzq=>?_;subst zq
 refine M.m.ask λ{H' c} A=>?_
 have ta:TA H T (tg H T λi=>if i=c then(10,e) else(0,0)):=iJ
 obtain⟨ff,so⟩:=M.m.o
 have kp:∀ (i:Nat) (m:MO),T i≠(5,0)->H[i]? =aa m->H'[i]? =aa m:=λi m n h=>A.ex _ _ (λq=>n (q▸M.ts)) h
 have kt:∀ {i:Nat}{m:MO}{p:Nat×Nat},T i=p->p≠(5,0)->H[i]? =aa m->H'[i]? =aa m:=λt n h=>kp _ _ (t▸n) h
 have oce:∀ c',oc=aa c'->c'=c:=λc' q=>by
  rcases A.oc with ⟨z,_⟩ |⟨z,_⟩
  ·exact Option.some.inj (q.symm.trans z)
  ·exact aE (z.symm.trans q)
 have tn:∀ {c' j:Nat},tg H T (λi=>if i=c then(10,e) else(0,0)) c'=(10,j)->((∃ m,H[c']? =aa m)/\T c'=(10,j))\/(c'=c/\j=e):=λ{c' j} q=>by
  rcases eW q with z |⟨_,z⟩
  ·exact .inl z
  ·by_cases v:c'=c
   ·rw[aw v]at z;exact cxP z (.inr ⟨v,rfl⟩)
   ·rw[aq v]at z;cases z
 have J:=I.grow (nr:=[]) (nE:=[]) (ra':=ra) (rb':=rb) ta (λi m n1 _ _ h=>kp i m n1 h) rfl rfl (by rw[cw];exact kt I.tR (λh=>ba h (by decide)) I.hR) (by rw[cw];exact kt I.tE nofun I.hE) nofun nofun
  ⟨e,w,aa c,by rw[cw];exact he,by rw[cw];exact hw,MZ.kept A.st ((ta _ _ so).trans M.ts) (by
   rcases A.oc with ⟨z,_⟩ |⟨_,z⟩
   ·exact(ta _ _ (z▸M.m).at_c).trans (M.tc _ z)
   ·exact(cY (z▸aM H)).trans (aw rfl)) λc' m q _=>by
   rcases tn q with ⟨⟨m',h⟩,t⟩ |⟨z,_⟩
   ·exact oce c' (M.un c' m' t h)
   ·exact z⟩ (I.ls' ta λi m t h=>kt t nofun h) λc' m j q _=>by
   rw[cw]
   rcases tn q with ⟨⟨m',h⟩,t⟩ |⟨_,z⟩
   ·exact I.t10 c' m' j t h
   ·exact Y136 e1 (Y137 he e1) z
 rw[cw,cw,cw,cw]at J
 exact kk ta kp A.st.at_c J
theorem SM.kp{rd:Nat}(h:SM H s ra rb rd rj n fs f a b)(k:∀ (r:Nat) (m:MO),(r=s\/r=ra\/r=rb\/r=rd\/r=rj\/∃ v,f v=aa (.ref r))->H[r]? =aa m->H'[r]? =aa m):SM H' s ra rb rd rj n fs f a b:=⟨k _ _ (.inl rfl) h.o,h.fa,h.fb,h.fd,h.fj,aCw h.ia λm=>k _ _ (.inr (.inl rfl)),aCw h.ib λm=>k _ _ (.inr (.inr (.inl rfl))),k _ _ (.inr (.inr (.inr (.inl rfl)))) h.d,k _ _ (.inr (.inr (.inr (.inr (.inl rfl))))) h.j,
  λv=>(h.bj v).imp id fun⟨r,js,h1,h2,h3⟩=>⟨r,js,h1,aCw h2 λm=>k _ _ (.inr (.inr (.inr (.inr (.inr ⟨v,h1⟩))))),h3⟩,h.al,h.bl⟩
theorem MZ.fresh{X:XX C}{rd:Nat}(S:SM H s ra rb rd rj n fs f a b)(hm:fs "matching_blocks" =aa .none)(ho:fs "opcodes" =aa .none)(al:a.length<=88)(bl:b.length<=88)(O:Ops a b W)(mf:Mf fs ra rb)(ts:T s=(5,0))(ta:T ra=(0,0))(tb:T rb=(0,0))(td:T rd=(0,0))(tj:T rj=(0,0))(tv:∀ v r,f v=aa (.ref r)->T r=(0,0))(un:∀ (c:Nat) (m:MO),T c=(10,e)->H[c]? =aa m->fe):MZ X H T s ra rb W e none:=⟨ts,nofun,λc m q h=>(un c m q h).elim,λH2 k=>.fresh (S.kp λr m z q=>k r m (by
  rcases z with rfl |rfl |rfl |rfl |rfl |⟨v,z⟩
  ·exact .inr (.inl rfl)
  ·exact .inl ta
  ·exact .inl tb
  ·exact .inl td
  ·exact .inl tj
  ·exact .inl (tv v r z)) q) hm ho (Y139 al) (λr h=>h.few (Y138 al bl)) (λl h=>h.uniq O) mf⟩
theorem xL(h:f lo H λa H1=>Lf a.rf λi=>(∃ ff,H1[i]? =aa (.inst ff))/\g [.ref i] H1 Q):cS g f esN lo H Q:=h
theorem xH(g1:lo "first" =aa (.ref ra))(g2:lo "second" =aa (.ref rb))(ha:LI H ra a)(hb:LI H rb b)(al:a.length<=88)(bl:b.length<=88)(k:∀ {H' r W},Hx H H'->H'[r]? =aa (.list (W.map Op.v))->Ops a b W->H[r]? =none->Q (.ref r) H'):newE X lo H Q:=by
 exact xL (bV (aP (cL (aP (aY g1 (aP (aY g2 (aP (cL (b8 (y7 X ha hb (Y140 al) (Y140 bl) λ{H1 rd rj rq m f} x1 S _=>Lf.mk rfl ⟨⟨_,S.o⟩,nC X S ⋯ ⋯ (Y139 al) (λr h=>h.few (Y138 al bl)) λ{H2 r l} e1 e2 e3 e4 O=>k (λi m h=>e1 _ _ (cI h) (x1 _ _ h)) e4 O (x1.no (aM H1))⟩)))))))))))
theorem Mst.same{X:XX C}(M:Mst X H s ra rb W oc)(k:Q .none H):bL X [.ref s,.ref ra,.ref rb] H Q:=by
 cases M with
 |fresh S hm ho al rl hW mf=>exact pU X S.o mf.fa mf.fb k
 |kept h hf hc mf=>exact pU X h mf.fa mf.fb k
theorem Mst.mf{X:XX C}(M:Mst X H s ra rb W oc):∃ fs,H[s]? =aa (.inst fs)/\Mf fs ra rb:=by
 cases M with
 |fresh S hm ho al rl hW mf=>exact⟨_,S.o,mf⟩
 |kept h hf hc mf=>exact⟨_,h,mf⟩
theorem Inv.addR{X:XX C}(I:Inv X H T s R G E ra rb rcs ecs rs ers gn)(n0:0<=n)(gf:H[gi]? =none)(xf:H[x]? =none)(xg:x≠gi)(kp:∀ (i:Nat) (m:MO),T i≠(2,0)->H[i]? =aa m->H'[i]? =aa m)(hR:H'[R]? =aa (.list ((rcs++[x]).map V.ref)))(hg:H'[gi]? =aa (.gen (.fresh (loB ["self","n"] [.ref s,.int n] lo0))))(hx:H'[x]? =aa (.list [.ref gi,.int n,.none,.int 0,.bool af])):Inv X H' (tg H T λi=>if i=gi then(7,rs.length) else(6,rs.length)) s R G E ra rb (rcs++[x]) ecs (rs++[⟨n,none,0,af⟩]) ers gn:=by
 have ta:TA H T (tg H T λi=>if i=gi then(7,rs.length) else(6,rs.length)):=iJ
 have kt:∀ {i:Nat}{m:MO}{p:Nat×Nat},T i=p->p≠(2,0)->H[i]? =aa m->H'[i]? =aa m:=λt n h=>kp _ _ (t▸n) h
 have tn:∀ {c j:Nat},tg H T (λi=>if i=gi then(7,rs.length) else(6,rs.length)) c=(10,j)->(∃ m,H[c]? =aa m)/\T c=(10,j):=λ{c j} q=>by
  rcases eW q with z |⟨_,z⟩
  ·exact z
  ·by_cases v:c=gi
   ·rw[aw v]at z;cases z
   ·rw[aq v]at z;cases z
 have J:=I.grow (nr:=[⟨n,none,0,af⟩]) (nE:=[]) (ra':=ra) (rb':=rb) ta (λi m _ n2 _ h=>kp i m n2 h) rfl rfl hR (by rw[cw];exact kt I.tE nofun I.hE) (λj r y q1 q2=>by
   cases j with
   |zero=>
    exact cxS q1 (cxS q2 ⟨(cY xf).trans (aq xg),n0,gi,(cY gf).trans (aw rfl),hx,.fresh hg⟩)
   |succ j=>cases q1) nofun (by
   rw[cw]
   obtain⟨e,w,oc,e1,e2,M⟩:=I.cur
   exact⟨e,w,oc,e1,e2,M.to ta (λc m q _=>(tn q).1) λr m z h=>by
    rcases z with z |z |z
    ·exact kt z nofun h
    ·exact kt ((bg T z).trans M.ts) nofun h
    ·exact kt (M.tc _ z) nofun h⟩) (I.ls' ta λi m t h=>kt t nofun h) λc m j q _=>by
   rw[cw]
   obtain⟨⟨m',h⟩,t⟩:=tn q
   exact I.t10 c m' j t h
 rw[cw,cw]at J
 exact J
theorem Inv.era{X:XX C}(I:Inv X H T s R G E ra rb rcs ecs rs ers gn){rd:Nat}{H1:MH}(ta':T ra'=(0,0))(tb':T rb'=(0,0))(x1:Hp (jI H s) H1)(S:SM H1 s ra' rb' rd rj n fs f a b)(hm:fs "matching_blocks" =aa .none)(ho:fs "opcodes" =aa .none)(mf:Mf fs ra' rb')(fv:∀ v r,f v=aa (.ref r)->jI H s r=none)(fd:jI H s rd=none)(fj:jI H s rj=none)(al:a.length<=88)(bl:b.length<=88)(O:Ops a b W)(kp:∀ (i:Nat) (m:MO),i≠E->H1[i]? =aa m->H'[i]? =aa m)(hE:H'[E]? =aa (.list ((ecs++[x]).map V.ref)))(xf:H1[x]? =none)(h0f:H1[r0]? =none)(x0:r0≠x)(hx:H'[x]? =aa (.list [.ref r0,.none]))(h0:H'[r0]? =aa (.list (W.map Op.v)))(la:IL H ra' a)(lb:IL H rb' b):Inv X H' (tg H T λi=>if i=x then(9,ers.length) else(0,0)) s R G E ra' rb' rcs (ecs++[x]) rs (ers++[⟨W,none⟩]) gn:=by
 have ta:TA H T (tg H T λi=>if i=x then(9,ers.length) else(0,0)):=iJ
 obtain⟨_,_,_,_,_,M⟩:=I.cur
 have ts:=M.ts
 obtain⟨ff,so⟩:=M.m.o
 have fr:∀ {i:Nat},H1[i]? =none->H[i]? =none:=λ{i} h=>by
  cases z:H[i]? with
  |none=>rfl
  |some m=>
   by_cases q:i=s
   ·subst q;exact aE (h.symm.trans S.o)
   ·exact aE (h.symm.trans (x1.b1 z q))
 have kt:∀ {i:Nat}{m:MO}{p:Nat×Nat},T i=p->p≠(5,0)->p≠(4,0)->H[i]? =aa m->H'[i]? =aa m:=λ{i m p} t n1 n2 h=>kp _ _ (bH t I.tE n2) ((λ{i m} n h=>x1.b1 h λq=>n (q▸ts):∀ {i:Nat}{m:MO},T i≠(5,0)->H[i]? =aa m->H1[i]? =aa m) (t▸n1) h)
 have tE:=(ta _ _ I.hE).trans I.tE
 have nw:∀ {i:Nat}{m:MO},jI H s i=none->H1[i]? =aa m->i≠s->tg H T (λi=>if i=x then(9,ers.length) else(0,0)) i=(0,0):=λ{i m} q h ns=>by
  unfold jI at q
  rw[aq ns]at q
  exact(cY q).trans (aq λz=>aE (xf.symm.trans (z▸h)))
 have ta2:=(ta _ _ la).trans ta'
 have tb2:=(ta _ _ lb).trans tb'
 have td:=nw fd S.d λq=>nomatch (Option.some.inj (S.d.symm.trans ((bg (H1[·]?) q).trans S.o)))
 have tj:=nw fj S.j λq=>nomatch (Option.some.inj (S.j.symm.trans ((bg (H1[·]?) q).trans S.o)))
 have tv:∀ v r,f v=aa (.ref r)->tg H T (λi=>if i=x then(9,ers.length) else(0,0)) r=(0,0):=λv r q=>by
  rcases S.bj v with ⟨z,_⟩ |⟨r',js,z1,z2,z3⟩
  ·exact aE (z.symm.trans q)
  ·cases q.symm.trans z1
   obtain⟨m,z⟩:=xS z2
   refine nw (fv v r q) z λv=>?_
   subst v
   have z2:H1[r]?.bind MO.vs=_:=z2
   cases (S.o▸z2)
 have tn:∀ {c j:Nat},tg H T (λi=>if i=x then(9,ers.length) else(0,0)) c=(10,j)->(∃ m,H[c]? =aa m)/\T c=(10,j):=λ{c j} q=>by
  rcases eW q with z |⟨_,z⟩
  ·exact z
  ·by_cases v:c=x
   ·rw[aw v]at z;cases z
   ·rw[aq v]at z;cases z
 have S':SM H' s ra' rb' rd rj n fs f a b:=S.kp λr m z q=>kp r m (by
  rcases z with z |z |z |z |z |⟨v,z⟩
  ·exact z▸bH ((ta _ _ so).trans ts) tE nofun
  ·exact z▸bH ta2 tE nofun
  ·exact z▸bH tb2 tE nofun
  ·exact z▸bH td tE nofun
  ·exact z▸bH tj tE nofun
  ·exact bH (tv v r z) tE nofun) q
 have J:=I.grow (nr:=[]) (ne:=[⟨W,none⟩]) (ra':=ra') (rb':=rb') ta (λi m n1 _ n3 h=>kt rfl n1 n3 h) rfl rfl (by rw[cw];exact kt I.tR nofun nofun I.hR) hE nofun (λj w y q1 q2=>by
   cases j with
   |zero=>
    exact cxS q1 (cxS q2 ⟨(cY (fr xf)).trans (aw rfl),.of O.cod al bl,nofun,r0,(cY (fr h0f)).trans (aq x0),hx,h0⟩)
   |succ j=>cases q1)
  ⟨ers.length,⟨W,none⟩,none,by rw[am];rfl,by rw[dg (ce _),qe];rfl,MZ.fresh S' hm ho al bl O mf ((ta _ _ so).trans ts) ta2 tb2 td tj tv λc m q _=>by
   obtain⟨⟨m',h⟩,t⟩:=tn q
   exact Nat.lt_irrefl _ (I.t10 c m' _ t h)⟩
  ⟨a,b,ta2,tb2,kt ta' nofun nofun la,kt tb' nofun nofun lb,al,bl⟩ λc m j q _=>by
   obtain⟨⟨m',h⟩,t⟩:=tn q
   exact rwL am (Nat.lt_of_lt_of_le (I.t10 c m' j t h) (ly _ _))
 rw[cw,cw]at J
 exact J
def fLw(s R G E ra rb:Nat):ac (Str×V):=[("matcher",.ref s),("readers",.ref R),("given",.ref G),("eras",.ref E),("first",.ref ra),("second",.ref rb)]
def OkR(rs:ac Rdr):Prop:=∀ r∈rs,r.ov=af->r.cnt<=201
inductive LX(X:XX C)(L:Nat)(xs:ac V)(r0 rn gb:Nat)(lo:Lo)(H:MH):Prop
 |mk {T:Tags}{s R G E ra rb gn:Nat}{rcs ecs:ac Nat}{rs:ac Rdr}{ers:ac Era} (F:Fs (fLw s R G E ra rb) lo) (I:Inv X H T s R G E ra rb rcs ecs rs ers gn) (tL:T L=(0,0)) (hL:H[L]? =aa (.list xs)) (c0:r0<=rs.length) (c1:rs.length<=rn) (c2:gn<=gb) (c3:OkR rs) (c5:ers.length<=5):LX X L xs r0 rn gb lo H
theorem LX.up{X:XX C}(J:LX X L xs r0 rn gb lo H)(h:([("matcher" :Str),"readers","given","eras","first","second"]:ac Str).contains x=af):LX X L xs r0 rn gb (upd lo x v) H:=by
 cases J with
 | @mk T s R G E ra rb gn rcs ecs rs ers F I tL hL c0 c1 c2 c3 c5=>
  refine .mk (F.up (by
   refine ie.mpr λp hp=>?_
   cases q: [x].contains p.1 with
   |false=>rfl
   |true=>
    have:=jt.mpr ((cy.mp (jt.mp q))▸(List.mem_map_of_mem hp:p.1∈List.map Prod.fst [(("matcher" :Str),V.ref s),("readers",V.ref R),("given",V.ref G),("eras",V.ref E),("first",V.ref ra),("second",V.ref rb)]))
    cases (h▸this))) I tL hL c0 c1 c2 c3 c5
theorem nE_i(gk:lo "k" =aa (.int z))(k:∀ n,0<=n->Q (.int n) H):nKE lo H Q:=by
 refine yS (fD (Evv.bin (.bin (.n gk) .k (kB (by decide))) .k aCd _ (Lf.mk rfl ?_)))
 cases(!decide (z%3=0)) with
 |true=>exact aW (Evv.bin (.n gk) .k (kB (by decide)) _ (k _ zzN))
 |false=>
  refine aR (bV (aP (aY gk (b8 (kch (B:=Q (.int (if z<0 then-z else z)) H) ⋯ (k _ ?_))))))
  by_cases q:z<0
  ·rw[aw q];exact Y143 q
  ·rw[aq q];exact Y142 q
theorem rd_nf:bF "reader" (rdE X) lo H K=(Lf (lo "n") λm=>Lp (aS id m (.int 3) H) λv H1=>Lf (tr v H1) λt=>bif t then(Lf (lo "matcher") λmm=>Lf mm.rf λi=>(∃ ff,H1[i]? =aa (.inst ff))/\bY X [.ref i] H1 λw H3=>K .next (upd lo "reader" w) H3) else (Lf (lo "matcher") λmm=>Lf mm.rf λi=>(∃ ff,H1[i]? =aa (.inst ff))/\Lf (lo "n") λm=>b6 X [.ref i,m] H1 λw H3=>K .next (upd lo "reader" w) H3)):=by kernel_rfl
theorem rd_i(gm:lo "matcher" =aa (.ref s))(gn:lo "n" =aa (.int n))(o:∃ ff,H[s]? =aa (.inst ff))(k:K .next (upd lo "reader" (.ref H.length)) (H++[MO.gen (.fresh (loB ["self","n"] [.ref s,.int n] lo0))])):bF "reader" (rdE X) lo H K:=by
 refine kch (rd_nf X) (Lf.mk gn (Lp.mk yO (Lf.mk rfl ?_)))
 by_cases c:n=3
 ·exact rwL (ao c) (aW (Lf.mk gm (Lf.mk rfl ⟨o,rfl,(rwR c k)⟩)))
 ·exact rwL (bc c) (aR (Lf.mk gm (Lf.mk rfl ⟨o,rwL gn ⟨rfl,k⟩⟩)))
theorem lsE_i{a b:V}(ga:lo "reader" =aa a)(gb:lo "n" =aa b)(q:Q (.ref H.length) (H++[.list [a,b,.none,.int 0,.bool af]])):lsE lo H Q:=kch (B:=Lf (lo "reader") λa=>Lf (lo "n") λb=>Lp (mkL [a,b,.none,.int 0,.bool af] H) Q) ⋯ (Lf.mk ga (Lf.mk gb (Lp.mk (by delta mkL;exact aw (show 5<1000000 by decide)) q)))
theorem d_new(J:LX X L xs r0 rn gb lo H)(gk:lo "k" =aa (.int z))(rl:rn<1000)(k:∀ {lo' H'},LX X L xs 1 (rn+1) gb lo' H'->K .next lo' H'):deed0 X lo H K:=by
 refine aI (d0 (nE_i gk λn n0=>aH ?_))
 have J:=J.up (x:="n") (v:=.int n) ⋯
 have gn:upd lo "n" (.int n) "n" =aa (.int n):=cH
 revert J gn
 generalize upd lo "n" (.int n)=lo
 intro J gn
 cases J with
 | @mk T s R G E ra rb gn' rcs ecs rs ers F I tL hL c0 c1 c2 c3 c5=>
 obtain⟨_,_,_,_,_,M⟩:=I.cur
 refine aI (rd_i X (F _ (.ref s) ⋯) gn M.m.o (aH ?_))
 have F2:Fs (("reader",.ref H.length)::("n",.int n)::fLw s R G E ra rb) (upd lo "reader" (.ref H.length)):=Fs.cons (λx v e=>by
  rw[List.lookup]at e
  cases q:x=="n" with
  |true=>rw[q]at e;exact cxS e (rwL (pn q) gn)
  |false=>rw[q]at e;exact F x v e) "reader" (.ref H.length)
 revert F2
 generalize upd lo "reader" (.ref H.length)=lo
 intro F2
 have x1:=Hx.app H [MO.gen (.fresh (loB ["self","n"] [.ref s,.int n] lo0))]
 have g1:=bC H (MO.gen (.fresh (loB ["self","n"] [.ref s,.int n] lo0)))
 have f1:=aM H
 revert x1 g1 f1 F2
 generalize H.length=gi
 generalize H++[MO.gen (.fresh (loB ["self","n"] [.ref s,.int n] lo0))]=H1
 refine λF2 x1 g1 f1=>(aI (sT (F2 _ (.ref R) ⋯) (x1 _ _ I.hR) (lsE_i (F2 _ (.ref gi) ⋯) (F2 _ (.int n) ⋯) ?_)))
 have x2:=Hx.app H1 [MO.list [V.ref gi,.int n,.none,.int 0,.bool af]]
 have g2:=bC H1 (MO.list [V.ref gi,.int n,.none,.int 0,.bool af])
 have f2:=aM H1
 revert x2 g2 f2
 generalize H1.length=x
 generalize H1++[MO.list [V.ref gi,.int n,.none,.int 0,.bool af]]=H2
 intro x2 g2 f2
 have x12:=x1.trans x2
 refine sU (x12 _ _ I.hR) (by exact rwL (ay ..) (rwL I.lR (Y141 rl c1))) (aH ?_)
 have nR:∀ {i:Nat},H[i]? =none->R≠i:=λh q=>aE (h.symm.trans (q▸I.hR))
 refine k (.mk (F2.re (fLw s R G E ra rb) ⋯) (I.addR (H':=H2.set R (.list (rcs.map V.ref++[.ref x]))) n0 f1 (x1.no f2) (λq=>aE (f2.symm.trans (q▸g1))) (λi m nt h=>aJ (x12 _ _ h) λq=>nt (q▸I.tR)) (by exact rwL cz (aG (x12 _ _ I.hR) _)) (aJ (x2 _ _ g1) (nR f1)) (aJ g2 (nR (x1.no f2)))) ((iJ _ _ hL).trans tL) (aJ (x12 _ _ hL) (bH I.tR tL (λh=>ba h (by decide)))) (by exact rwL am (nh _ _)) (by exact rwL am (kh c1)) c2 (λr hr=>?_) c5)
 rcases ij.mp hr with hr |hr
 ·exact c3 r hr
 ·exact rwL (cy.mp hr) (λ_=>gw _)
theorem xT{ecs:ac Nat}(gE:lo "eras" =aa (.ref E))(hE:H[E]? =aa (.list (ecs.map V.ref)))(le:ecs.length=e+1)(hy:ecs[e]? =aa y)(q:Q (.ref y) H):t8 lo H Q:=by
 refine bA (aY gE (vW (Lp.mk (hO (j:=e) hE (by decide) ?_ ?_) q)))
 ·rw[ay,le,seqIndex?_neg_one (xv e)];rfl
 ·rw[gp,hy];rfl
theorem Inv.last{X:XX C}(I:Inv X H T s R G E ra rb rcs ecs rs ers gn):∃ e y,ers.length=e+1/\ecs.length=e+1/\ecs[e]? =aa y:=by
 obtain⟨e,_,_,e1,_⟩:=I.cur
 exact⟨e,_,e1,(I.lE.trans e1),az (Y114 (I.lE.trans e1))⟩
def m8(f:EF):SF:=(sIf (mD (tE (aK (eJ X) (esC f (esC t8 (esC (eN "given") esN)))))) (aB (dX (eK (.bool af))) (sK .next)) (sK .next))
theorem OkR.pul(h:OkR rs)(hk:rs[k]? =aa r)(p:Pul r r'):OkR (rs.set k r'):=λq hq=>by
 rcases List.mem_or_eq_of_mem_set hq with hq |rfl
 ·exact h q hq
 ·intro o
  rw[p.c]
  rcases mw r.cnt 201 with z |z
  ·exact z
  ·cases ((p.o z)▸o)
theorem aBu(F:Fs (fLw s R G E ra rb) lo)(I:Inv X H T s R G E ra rb rcs ecs rs ers gn)(hf:Evv f lo H (.ref x))(hk:rs[k]? =aa r)(hx:rcs[k]? =aa x)(gl:gn<900000)(kk:∀ {H' T' r' ers' gn'},TA H T T'->(∀ (i:Nat) (m:MO),T i=(0,0)->H[i]? =aa m->H'[i]? =aa m)->Inv X H' T' s R G E ra rb rcs ecs (rs.set k r') ers' gn'->ers'.length=ers.length->gn'<=gn+1->Pul r r'->K .next lo H'):m8 X f lo H K:=by
 obtain⟨e,y,e1,e2,e3⟩:=I.last
 exact eM (aAs (fD (bV (aP (hf _ (aP (xT (F _ (.ref E) ⋯) I.hE e2 e3 (aP (aY (F _ (.ref G) ⋯) (b8 (zL X I hk hx e1 e3 gl λ{H' T' r' ers' gn'} ta kz I' el g' p=>Lf.mk rfl (aR (kk ta kz I' el g' p)))))))))))))
theorem d_pull(J:LX X L xs r0 rn gb lo H)(gk:lo "k" =aa (.int z))(r1:1<=r0)(rl:rn<1000)(gl:gb<900000)(k:∀ {H'},LX X L xs r0 rn (gb+1) lo H'->K .next lo H'):m8 X rkE lo H K:=by
 cases J with
 | @mk T s R G E ra rb gn' rcs ecs rs ers F I tL hL c0 c1 c2 c3 c5=>
 have lc:(rcs.map V.ref).length=rcs.length:=ay ..
 have lR:=I.lR
 have gR:=F ("readers" :Str) (.ref R) ⋯
 have p0:=Y150 r1 c0 lR
 have m1:=Int.emod_lt_of_pos z p0
 obtain⟨i,hi⟩:∃ i:Nat,z%(rcs.length:Int)=(i:Int):=⟨_,(Int.toNat_of_nonneg (Int.emod_nonneg z (Int.ne_of_gt p0))).symm⟩
 rw[hi]at m1
 have il:=Y149 m1
 have hx:=az il
 have hk:=az (Y148 lR il)
 revert hx hk
 generalize rcs[i]=x
 generalize rs[i]'(Y148 lR il)=r
 refine λhx hk=>(aBu X F I (.bin (.n gR) (.bin (.n gk) (lB gR (aT I.hR) (by exact rwL lc (Y147 rl c1 lR))) (kB (by exact rwL lc p0))) (hO (j:=i) I.hR (rwL lc (rwL hi (Y145 rl c1 lR il))) ?_ ?_)) hk hx (Y146 gl c2) λ{H' T' r' ers' gn'} ta kz I' el g' p=>?_)
 ·rw[lc,hi,cP (cj i) m1,ii]
 ·rw[gp,hx];rfl
 ·exact k (.mk F I' ((ta _ _ hL).trans tL) (kz _ _ tL hL) (by exact rwL jj c0) (by exact rwL jj c1) (Y144 c2 g') (c3.pul hk p) (el▸c5))
def lcE:EF:=(aK (dK X) (esC (aA aO t8 (eK (nv 0))) (esC (aA aO t8 (eK (nv 1))) esN)))
theorem Inv.plain{X:XX C}(I:Inv X H T s R G E ra rb rcs ecs rs ers gn)(x:Hx H H'):Inv X H' (tg H T λ_=>(0,0)) s R G E ra rb rcs ecs rs ers gn:=I.hx x iJ λc e q=>by
 rcases eW q with ⟨z,_⟩ |⟨_,z⟩
 ·exact z
 ·cases z
theorem ask_i(J:LX X L xs r0 rn gb lo H){P:V->V->MH->Prop}(k:∀ {H' c c'},LX X L xs r0 rn gb lo H'->eqv H' (.ref c) (.ref c')=aa ag->P (.ref c) (.ref c') H'):askE X lo H λa H1=>lcE X lo H1 λb H2=>P a b H2:=by
 cases J with
 | @mk T s R G E ra rb gn' rcs ecs rs ers F I tL hL c0 c1 c2 c3 c5=>
 obtain⟨e,y,e1,e2,e3⟩:=I.last
 have hw:=az (Y114 e1)
 revert hw
 generalize ers[e]'(Y114 e1)=w
 intro hw
 obtain⟨_,_,_,_,_,M⟩:=I.cur
 refine xL (aY (F _ (.ref s) ⋯) (Lf.mk rfl ⟨M.m.o,I.ask e1 hw λ{H1 T1 c} ta kp hc I1=>?_⟩))
 have hL1:=kp _ _ (by rw[tL];nofun) hL
 obtain⟨_,ok,_,r0',_,hy,h0⟩:=I1.er e w y hw e3
 have la:∀ {Q:EK}{H2:MH}{k:Nat}{v:V},H2=H1-> [V.ref r0',lsV w.lst][k]? =aa v->Q v H1->aA aO t8 (eK (nv k)) lo H1 Q:=λ{Q H2 k v} _ hv q=>bA (xT (F ("eras" :Str) (.ref E) ⋯) I1.hE e2 e3 (cL (Lp.mk (ixn hy hv (show 2<100000 by decide)) q)))
 exact bV (aP (la rfl rfl (aP (la rfl rfl (b8 (wI X h0 (du ok.len (by decide)) ok.bal λ{H2 r2} x2 h2 _=>(k (.mk F (I1.plain x2) ((iJ _ _ hL1).trans ((ta _ _ hL).trans tL)) (x2 _ _ hL1) c0 c1 c2 c3 c5) (jF Op.v dO (aT (x2 _ _ hc)) (aT h2) (λo _=>qI o) λo _=>qJ o))))))))
def deed4:SF:=(sIf (tE (aA (aS not) (askE X) (lcE X))) (aB (dX (eK (.bool af))) (sK .next)) (sK .next))
theorem d_ask(J:LX X L xs r0 rn gb lo H)(k:∀ {H'},LX X L xs r0 rn gb lo H'->K .next lo H'):deed4 X lo H K:=qZ (ask_i X J λ{H' c c'} J' e=>no_i e (k J'))
theorem aBl(gs:lo "matcher" =aa (.ref s))(ga:lo "first" =aa (.ref ra))(gb:lo "second" =aa (.ref rb))(o:∃ ff,H[s]? =aa (.inst ff))(k:bL X [.ref s,.ref ra,.ref rb] H λ_ H'=>K .next lo H'):setS X lo H K:=aF3 (show(eN "matcher") lo H (λa H1=>Lf a.rf λi=>(∃ ff,H1[i]? =aa (.inst ff))/\(esC (eN "first") (esC (eN "second") esN)) lo H1 λvs H2=>bL X (.ref i::vs) H2 _) from aY gs (Lf.mk rfl ⟨o,aP (aY ga (aP (aY gb (b8 k))))⟩))
theorem d_same(J:LX X L xs r0 rn gb lo H)(k:LX X L xs r0 rn gb lo H->K .next lo H):setS X lo H K:=by
 have k:=k J
 cases J with
 | @mk T s R G E ra rb gn' rcs ecs rs ers F I tL hL c0 c1 c2 c3 c5=>
 obtain⟨_,_,_,_,_,M⟩:=I.cur
 exact aBl X (F _ (.ref s) ⋯) (F _ (.ref ra) ⋯) (F _ (.ref rb) ⋯) M.m.o (M.m.same k)
def NwL(B:MH)(f:EF)(lo:Lo):Prop:=∀ {H:MH}{Q:EK},Hx B H->(∀ {H' r}{l:ac Int},Hx H H'->H[r]? =none->IL H' r l->l.length<=88->Q (.ref r) H')->f lo H Q
def cpE(x:Str):EF:=aK (bW (eR X.gc 6 X.gv) (λi=>i)) (esC (eN x) esN)
theorem NwL.cp(hx:lo x=aa (.ref r))(h:IL B r a)(al:a.length<=88):NwL B (cpE X x) lo:=λ{H Q} xb k=>
 bV (aP (aY hx (b8 (xR (xb _ _ h) (by rw[ay];exact Y140 al) (k (.app _ _) (aM H) (bC _ _) al)))))
theorem NwL.nil:NwL B (b9 esN) lo:=λ{H Q} xb k=>lA (k (l:=[]) (.app _ _) (aM H) (bC _ _) (by decide))
structure Two2(H H':MH)(lo':Lo)(s R G E q1 q2:Nat)(a b:ac Int):Prop where
 F:Fs (fLw s R G E q1 q2) lo'
 x:Hx H H'
 f1:H[q1]? =none
 f2:H[q2]? =none
 h1:IL H' q1 a
 h2:IL H' q2 b
 l1:a.length<=88
 l2:b.length<=88
theorem vG(F:Fs (fLw s R G E ra rb) lo)(h1:NwL H f lo)(h2:NwL H g lo)(k:∀ {lo' H' q1 q2 a b},Two2 H H' lo' s R G E q1 q2 a b->K .next lo' H'):bO ["first","second"] (bD (esC f (esC g esN))) lo H K:=wZ (h1 (.refl _) λ{H1 a1 l1} x1 f1 g1 b1=>h2 x1 λ{H2 a2 l2} x2 f2 g2 b2=>⟨by decide,rfl,k ⟨(((F.cons "second" (.ref a2)).cons "first" (.ref a1)).re (fLw s R G E a1 a2) ⋯),x1.trans x2,f1,x1.no f2,x2 _ _ g1,g2,b1,b2⟩⟩)
def swS:SF:=(sIf (tE (aA (aS id) (aA c6 (eN "k") (eK (.int 4))) (eK (.int 1)))) (aB (bO ["first","second"] (bD (esC (cpE X "second") (esC (cpE X "first") esN)))) (sK .next)) (aB (sIf (tE (aA (aS id) (aA c6 (eN "k") (eK (.int 4))) (eK (.int 2)))) (aB (bO ["first","second"] (bD (esC (cpE X "second") (esC (cpE X "second") esN)))) (sK .next)) (aB (bO ["first","second"] (bD (esC (b9 esN) (esC (eIf (tE (aA (aS id) (aA c6 (eN "k") (eK (.int 8))) (eK (.int 3)))) (cpE X "second") (b9 esN)) esN)))) (sK .next))) (sK .next)))
theorem md_i(gk:lo "k" =aa (.int z))(h:0<m)(k:∀ b,P b H):tE (aA (aS id) (aA c6 (eN "k") (eK (.int m))) (eK (.int q))) lo H P:=fD (Evv.bin (.bin (.n gk) .k (kB h)) .k yO _ (Lf.mk rfl (k _)))
theorem swS_i(F:Fs (fLw s R G E ra rb) lo)(gk:lo "k" =aa (.int z))(ha:IL H ra a)(hb:IL H rb b)(al:a.length<=88)(bl:b.length<=88)(k:∀ {lo' H' q1 q2 a b},Two2 H H' lo' s R G E q1 q2 a b->K .next lo' H'):swS X lo H K:=by
 have n2:NwL H (cpE X "second") lo:=NwL.cp X (F ("second" :Str) (.ref rb) ⋯) hb bl
 refine eM (md_i gk (by decide) λb1=>?_)
 cases b1 with
 |true=>exact aW (aI (vG F n2 (NwL.cp X (F ("first" :Str) (.ref ra) ⋯) ha al) λW=>aH (k W)))
 |false=>
  refine aR (aI (eM (md_i gk (by decide) λb2=>?_)))
  cases b2 with
  |true=>exact aW (aI (vG F n2 n2 λW=>aH (aH (k W))))
  |false=>
   refine aR (aI (vG F NwL.nil (λ{H1 Q} x kk=>yS (md_i gk (by decide) λb3=>?_)) λW=>aH (aH (k W))))
   cases b3 with
   |true=>exact aW (n2 x kk)
   |false=>exact aR (NwL.nil x kk)
def deed5:SF:=aB (swS X) (aB (setS X) (aB (apE X) (sK .next)))
theorem d_sets(J:LX X L xs r0 rn gb lo H)(gk:lo "k" =aa (.int z))(el:∀ E v,lo "eras" =aa (.ref E)->H[E]? =aa (.list v)->v.length<5)(k:∀ {lo' H'},LX X L xs r0 rn gb lo' H'->K .next lo' H'):deed5 X lo H K:=by
 cases J with
 | @mk T s R G E ra rb gn' rcs ecs rs ers F I tL hL c0 c1 c2 c3 c5=>
 have el:=el E _ (F _ (.ref E) ⋯) I.hE
 obtain⟨a,b,ta,tb,ha,hb,al,bl⟩:=I.ls
 refine aI (swS_i X F gk ha hb al bl λ{lo1 H1 q1 q2 a1 b1} W=>aH ?_)
 have I1:=I.plain W.x
 have tq1:tg H T (λ_=>(0,0)) q1=(0,0):=cY W.f1
 have tq2:tg H T (λ_=>(0,0)) q2=(0,0):=cY W.f2
 have tL1:tg H T (λ_=>(0,0)) L=(0,0):=(iJ _ _ hL).trans tL
 revert I1 tq1 tq2 tL1
 generalize tg H T (λ_=>(0,0))=T1
 intro I1 tq1 tq2 tL1
 obtain⟨_,_,_,_,_,M⟩:=I1.cur
 have ts:=M.ts
 refine xEA M.m.mf λfs hs mf=>?_
 have F1:=W.F
 have lp:∀ {q:Nat}{l:ac Int},T1 q=(0,0)->IL H1 q l->LP (jI H1 s) q l:=λ{q l} t h=>by
  unfold LP jI
  rw[aq (bH t ts nofun),show H1[q]? =aa (.list (l.map V.int)) from h];rfl
 refine aI (aBl X (F1 _ (.ref s) ⋯) (F1 _ (.ref q1) ⋯) (F1 _ (.ref q2) ⋯) ⟨_,hs⟩ (aHl X hs y4 aE2 mf.fa mf.fb mf.fj mf.fu (lp tq1 W.h1) (lp tq2 W.h2) (λq=>aE (W.f1.symm.trans (q▸ha))) (λq=>aE (W.f2.symm.trans (q▸hb))) (du W.l1 (by decide)) (du W.l2 (by decide)) λ{H2 rd rj rp n f} x2 S fv fd fj=>aH ?_))
 have E2:=(λt n h=>x2.b1 h (bH t ts n)) I1.tE nofun I1.hE
 refine aI (sT (F1 _ (.ref E) ⋯) E2 (show(newE X) lo1 H2 (λv H3=>Lp (mkL [v,.none] H3) (appK E lo1 _)) from xH X (F1 _ (.ref q1) ⋯) (F1 _ (.ref q2) ⋯) S.ia S.ib W.l1 W.l2 λ{H3 r1 Wo} x3 h0 O f0=>Lp.mk (by delta mkL;exact aw (show 2<1000000 by decide)) ?_))
 have x4:=Hx.app H3 [MO.list [V.ref r1,.none]]
 have g4:=bC H3 (MO.list [V.ref r1,.none])
 have f4:=x3.no (aM H3)
 have n4:r1≠H3.length:=λq=>aE ((aM H3).symm.trans (q▸h0))
 revert x4 g4 f4 n4
 generalize H3.length=x
 generalize H3++[MO.list [V.ref r1,.none]]=H4
 intro x4 g4 f4 n4
 have x34:=x3.trans x4
 exact sU (x34 _ _ E2) (ko el (by decide)) (aH (k (.mk F1 (I1.era (H':=H4.set E (.list (ecs.map V.ref++[.ref x]))) tq1 tq2 x2 S ⋯ ⋯ ⟨mf.fj,mf.fu,by kernel_rfl,by kernel_rfl⟩ fv fd fj W.l1 W.l2 O (λi m n h=>aJ (x34 _ _ h) n.symm) (by exact rwL cz (aG (x34 _ _ E2) _)) f4 f0 n4 (aJ g4 ((λh q=>aE (h.symm.trans (q▸E2))) f4)) (aJ (x4 _ _ h0) ((λh q=>aE (h.symm.trans (q▸E2))) f0)) W.h1 W.h2) ((iJ _ _ (W.x _ _ hL)).trans tL1) (aJ (x34 _ _ ((λt n h=>x2.b1 h (bH t ts n)) tL1 nofun (W.x _ _ hL))) (bH I1.tE tL1 nofun)) c0 c1 c2 c3 (by exact rwL am (rwR I.lE (rwR (ay ..) el))))))
def yW:SF:=(aB (bF "k" (aA q7 (eN "x") (eK (.int 6)))) (aB (sIf (tE (aA (aS id) x6E (eK (.int 0)))) (deed0 X) (aB (sIf (tE (aA oLt x6E (eK (.int 4)))) (aB (m8 X rkE) (sK .next)) (aB (sIf (tE (aA (aS id) x6E (eK (.int 4)))) (aB (deed4 X) (sK .next)) (aB (sIf (tE (aA (aS id) (aA c6 (eN "k") (eK (.int 4))) (eK (.int 0)))) (aB (setS X) (sK .next)) (aB (sIf lenS (deed5 X) (sK .next)) (sK .next))) (sK .next))) (sK .next))) (sK .next))) (sK .next)))
theorem lenE_i{X:XX C}(J:LX X L xs r0 rn gb lo H)(k:∀ b,(b=ag->∀ E v,lo "eras" =aa (.ref E)->H[E]? =aa (.list v)->v.length<5)->P b H):lenS lo H P:=by
 cases J with
 | @mk T s R G E ra rb gn' rcs ecs rs ers F I tL hL c0 c1 c2 c3 c5=>
 have gE:=F ("eras" :Str) (.ref E) ⋯
 refine fD (Evv.bin (lB gE (aT I.hE) (by exact rwL (ay ..) (Y159 c5 I.lE))) .k lt_e _ (Lf.mk rfl (k _ λb E' v q1 q2=>?_)))
 cases (gE▸q1)
 cases (I.hE▸q2)
 exact Y158 (cx b)
inductive LWd(X:XX C)(L:Nat)(xs:ac V)(rest:ac V)(lo:Lo)(H:MH):Prop
 |mk {sc:ac Int}{r0 rn gb:Nat} (er:rest=sc.map V.int) (J:LX X L xs r0 rn gb lo H) (b1:rn+sc.length<=67) (b2:gb+sc.length<=67) (c:1<=r0\/∃ sc',sc=18::sc'):LWd X L xs rest lo H
theorem w_step(I:LWd X L xs (v::rest) lo H)(go:GoK (LWd X L xs rest) Q K):aN "x" v lo H λlo1 H1=>yW X lo1 H1 K:=by
 cases I with
 | @mk sc r0 rn gb er J b1 b2 c=>
 cases sc with
 |nil=>cases er
 |cons x sc=>
 obtain⟨rfl,rfl⟩:=jm.mp er
 rw[cq]at b1 b2
 show yW X (upd lo "x" (.int x)) H K
 have J:=J.up (x:="x") (v:=.int x) ⋯
 have gx:upd lo "x" (.int x) "x" =aa (.int x):=cH
 revert J gx
 generalize upd lo "x" (.int x)=lo
 refine λJ gx=>(aI (d0 (Evv.bin (.n gx) .k (div_e (by decide)) _ (aH ?_))))
 have J:=J.up (x:="k") (v:=.int (x/6)) ⋯
 have gx:=(show upd lo "k" (.int (x/6)) "x" =lo "x" by kernel_rfl).trans gx
 have gk:upd lo "k" (.int (x/6)) "k" =aa (.int (x/6)):=cH
 revert J gx gk
 generalize upd lo "k" (.int (x/6))=lo
 intro J gx gk
 have nx:∀ {r0' rn' gb':Nat}{lo':Lo}{H':MH},LX X L xs r0' rn' gb' lo' H'->1<=r0'->rn'<=rn+1->gb'<=gb+1->K .next lo' H':=λJ h1 h2 h3=>go.nx (.mk rfl J (Y157 b1 h2) (Y157 b2 h3) (.inl h1))
 have eq6:∀ {m:Int}{P:dj->MH->Prop},P (decide (x%6=m)) H->tE (aA (aS id) x6E (eK (.int m))) lo H P:=λ{m P} q=>fD (Evv.bin (.bin (.n gx) .k (kB (by decide))) .k yO _ (Lf.mk rfl q))
 refine aI (eM (eq6 ?_))
 by_cases q0:x%6=0
 ·rw[ao q0]
  exact aW (d_new X J gk (Y156 b1) λJ=>aH (nx J (ce 1) (ce _) (lw gb)))
 ·rw[bc q0]
  have r1:1<=r0:=by
   rcases c with c |⟨sc',c⟩
   ·exact c
   ·cases c;exact ba rfl q0
  refine aR (aI (eM (fD (Evv.bin (.bin (.n gx) .k (kB (by decide))) .k lt_e _ (Lf.mk rfl ?_)))))
  cases decide (x%6<4) with
  |true=>exact aW (aI (d_pull X J gk r1 (Y156 b1) (Y155 b2) λJ=>aH (aH (aH (nx J r1 (lw rn) (ce _))))))
  |false=>
   refine aR (aI (eM (eq6 ?_)))
   cases decide (x%6=4) with
   |true=>exact aW (aI (d_ask X J λJ=>aH (aH (aH (aH (nx J r1 (lw rn) (lw gb)))))))
   |false=>
    refine aR (aI (eM (md_i gk (by decide) λb=>?_)))
    cases b with
    |true=>exact aW (aI (d_same X J λJ=>aH (aH (aH (aH (aH (nx J r1 (lw rn) (lw gb))))))))
    |false=>
     refine aR (aI (eM (lenE_i J λb el=>?_)))
     cases b with
     |true=>exact aW (d_sets X J gk (el rfl) λJ=>aH (aH (aH (aH (aH (nx J r1 (lw rn) (lw gb)))))))
     |false=>exact aR (aH (aH (aH (aH (aH (nx J r1 (lw rn) (lw gb)))))))
def four:ac Int:=[18,1,6,7]
theorem LX.plain{X:XX C}(J:LX X L xs r0 rn gb lo H)(xx:Hx H H'):LX X L xs r0 rn gb lo H':=by
 cases J with
 | @mk T s R G E ra rb gn' rcs ecs rs ers F I tL hL c0 c1 c2 c3 c5=>exact .mk F (I.plain xx) ((iJ _ _ hL).trans tL) (xx _ _ hL) c0 c1 c2 c3 c5
theorem LX.list{X:XX C}(J:LX X L xs r0 rn gb lo H)(xx:Hx H H')(f:H[L']? =none)(h:H'[L']? =aa (.list xs')):LX X L' xs' r0 rn gb lo H':=by
 cases J with
 | @mk T s R G E ra rb gn' rcs ecs rs ers F I tL hL c0 c1 c2 c3 c5=>exact .mk F (I.plain xx) (cY f) h c0 c1 c2 c3 c5
theorem law_4(hl:sc.length<=63)(gs:lo "script" =aa (.ref rs))(h:LI H rs sc)(J:LX X L xs 0 0 0 lo H)(k:∀ {L' xs' r0 lo' H'},LX X L' xs' r0 67 67 lo' H'->1<=r0->K .next lo' H'):yJ X lo H K:=by
 have ll:(four++sc).length<=67:=by exact rwL am (Y154 hl:4+sc.length<=67)
 show jV (cC C) (iL (aA aL (b9 (esC (eK (.int 18)) (esC (eK (.int 1)) (esC (eK (.int 6)) (esC (eK (.int 7)) esN))))) (eN "script"))) (aN "x") (yW X) lo H K
 refine vM (kch (B:=Lp (mkL (four.map V.int) H) λv H1=>Lf (lo "script") λb=>Lp (aL v b H1) λw H2=>Lf w.rf λr=>(∃ vs,lst H2 (.ref r)=aa vs)/\∃ n,cZ (cC C) (aN "x") (yW X) n (r,0) lo H2 K) ⋯ (Lp.mk (by delta mkL;exact aw (show 4<1000000 by decide)) (Lf.mk gs ?_)))
 have x1:=Hx.app H [MO.list (four.map V.int)]
 have g1:=bC H (MO.list (four.map V.int))
 revert x1 g1
 generalize H++[MO.list (four.map V.int)]=H1
 generalize H.length=r1
 refine λx1 g1=>(xB (aT g1) (x1.li h) (by rw[ay,ay];exact(Y153 hl:4+sc.length<1000000)) (rwR cz ?_))
 have g2:=bC H1 (MO.list ((four++sc).map V.int))
 refine Lf.mk rfl ⟨⟨_,aT g2⟩,_,fV (LWd X H1.length ((four++sc).map V.int)) (λI=>?_) (λI=>?_) (λ{v rest lo H K} I go=>w_step X I go) _ 0 rfl (.mk rfl (J.list (x1.trans (Hx.app H1 [MO.list ((four++sc).map V.int)])) (x1.no (aM H1)) g2) (Y152 ll) (Y152 ll) (.inr ⟨_,rfl⟩))⟩
 ·cases I with
  |mk er J=>cases J with
   |mk F I tL hL=>exact aT hL
 ·cases I with
  | @mk sc' r0 rn gb er J b1 b2 c=>
   cases J with
   | @mk T s R G E ra rb gn' rcs ecs rs ers F I tL hL c0 c1 c2 c3 c5=>exact k (.mk F I tL hL c0 (Y151 b1 c1) (Y151 b2 c2) c3 c5) (by
    cases sc' with
    |nil=>exact c.resolve_right nofun
    |cons=>cases er)
def endT:TF:=(mD (tE (rE "reader" 4)))
theorem aAf(h:endT lo H P)(k:∀ c H',P c H'->P' c H'):endT lo H P':=Lf.elim h λa e h=>Lf.mk e (Lf.elim h λp e h=>Lf.mk e (Lf.elim h λc e h=>Lf.mk e (k _ _ h)))
inductive LV(X:XX C)(L:Nat)(xs:ac V)(rest:ac V)(lo:Lo)(H:MH):Prop
 |mk {T:Tags}{s R G E ra rb gn:Nat}{rcs ecs rest':ac Nat}{rs:ac Rdr}{ers:ac Era} (F:Fs (fLw s R G E ra rb) lo) (I:Inv X H T s R G E ra rb rcs ecs rs ers gn) (tL:T L=(0,0)) (hL:H[L]? =aa (.list xs)) (er:rest=rest'.map V.ref) (mem:∀ x∈rest',x∈rcs) (c2:gn+202*rest'.length<=20000) (c3:OkR rs) (c0:0<rs.length) (c1:rs.length<=67) (c5:ers.length<=5):LV X L xs rest lo H
inductive LU(X:XX C)(L:Nat)(xs:ac V)(x:Nat)(nr:Nat)(rest':ac Nat)(m:Nat)(lo:Lo)(H:MH):Prop
 |mk {T:Tags}{s R G E ra rb gn k:Nat}{rcs ecs:ac Nat}{rs:ac Rdr}{ers:ac Era}{r:Rdr} (F:Fs (("reader",.ref x)::fLw s R G E ra rb) lo) (I:Inv X H T s R G E ra rb rcs ecs rs ers gn) (tL:T L=(0,0)) (hL:H[L]? =aa (.list xs)) (mem:∀ x∈rest',x∈rcs) (hk:rs[k]? =aa r) (hx:rcs[k]? =aa x) (c2:gn+m+202*rest'.length<=20000) (c3:OkR rs) (cm:r.ov=ag\/202<=r.cnt+m) (c1:rs.length<=67) (c5:ers.length<=5):LU X L xs x nr rest' m lo H
theorem u_step{K:SK}(hQ:∀ {lo H},LV X L xs (rest'.map V.ref) lo H->Q .next lo H)(J:LU X L xs x 0 rest' m lo H):endT lo H λc H1=>bif c then ∀ K,GoK (λlo' H'=>∃ m',m'<m/\LU X L xs x 0 rest' m' lo' H') Q K->(aB (m8 X (eN "reader")) (sK .next)) lo H1 K else Q .next lo H1:=by
 cases J with
 | @mk T s R G E ra rb gn k rcs ecs rs ers r F I tL hL mem hk hx c2 c3 cm c1 c5=>
 obtain⟨tx,n0,gi,tg,hxx,_⟩:=I.rd k r x hk hx
 have gx:=F ("reader" :Str) (.ref x) ⋯
 refine aAs (fD (k7 gx hxx rfl (show 5<100000 by decide) _ (Lf.mk rfl ?_)))
 have rm:=dc hk
 cases ov:r.ov with
 |true=>exact aR (hQ (.mk (F.re _ ⋯) I tL hL rfl mem (Y167 c2) c3 (List.length_pos_of_mem rm) c1 c5))
 |false=>
  have m1:=cm.resolve_left λq=>nomatch ov.symm.trans q
  refine aW λK go=>aI (aBu X (F.re _ ⋯) I (.n gx) hk hx (Y166 c2) λ{H' T' r' ers' gn'} ta kz I' el g' p=>aH (go.nx ⟨m-1,Y165 (c3 r rm ov) m1,.mk F I' ((ta _ _ hL).trans tL) (kz _ _ tL hL) mem (bn (List.getElem?_eq_some_iff.mp hk).1) hx (Y164 c2 (c3 r rm ov) m1 g') (c3.pul hk p) (.inr ?_) (by exact rwL jj c1) (el▸c5)⟩))
  exact rwL p.c (Y163 m1)
theorem v_step(I:LV X L xs (v::rest) lo H)(go:GoK (LV X L xs rest) Q K):aN "reader" v lo H λlo1 H1=>(aB (fM endT (aB (m8 X (eN "reader")) (sK .next))) (sK .next)) lo1 H1 K:=by
 cases I with
 | @mk T s R G E ra rb gn rcs ecs rest' rs ers F I tL hL er mem c2 c3 c0 c1 c5=>
 cases rest' with
 |nil=>cases er
 |cons x rest'=>
 obtain⟨rfl,rfl⟩:=jm.mp er
 obtain⟨k,kl,hk⟩:=List.getElem_of_mem (mem x (.head _))
 exact aI ⟨_,while_ (LU X L xs x 0 rest') (λJ=>u_step X (K:=K) (λI=>aH (go.nx I)) J) aAf 1000 202 (by decide) (.mk (F.cons "reader" (.ref x)) I tL hL (λy hy=>mem y (.tail _ hy)) (az (I.lR▸kl)) (by rw[az kl,hk]:rcs[k]? =aa x) (Y162 (rwR cq c2)) c3 (.inr (nh _ _)) c1 c5)⟩
theorem law_5(J:LX X L xs r0 67 67 lo H)(r1:1<=r0)(k:∀ {L' xs' lo' H'},LX X L' xs' 0 67 20000 lo' H'->K .next lo' H'):yI X lo H K:=by
 cases J with
 | @mk T s R G E ra rb gn rcs ecs rs ers F I tL hL c0 c1 c2 c3 c5=>
 refine vM (show oP (eN "readers") (eK .none) (eK .none) (gQ (eK (.int 1))) lo H (λv H1=>Lf v.rf λr=>(∃ vs,lst H1 (.ref r)=aa vs)/\∃ n,cZ (cC C) (aN "reader") (aB (fM endT (aB (m8 X (eN "reader")) (sK .next))) (sK .next)) n (r,0) lo H1 K) from (aEg (aY (F _ (.ref R) ⋯) (cL (cL (vW (Lf.mk rfl (Lf.mk rfl (Lf.mk rfl (slc_i (aT I.hR) (by exact rwL (ay ..) (Y161 c1 I.lR)) (λh=>ba h (by decide)) ?_))))))))))
 rw[vS]
 have g1:=bC H (MO.list ((pk rcs none none (aa (-1))).map V.ref))
 refine Lf.mk rfl ⟨⟨_,aT g1⟩,_,fV (LV X H.length ((pk rcs none none (aa (-1))).map V.ref)) (λI=>?_) (λI=>?_) (λ{v rest lo H K} I go=>v_step X I go) _ 0 rfl (.mk F (I.plain (Hx.app H [MO.list ((pk rcs none none (aa (-1))).map V.ref)])) (cY (aM H)) g1 rfl (λy hy=>pk_mem hy) (Nat.le_trans (Nat.add_le_add c2 (Nat.mul_le_mul_left 202 (Nat.le_trans (aBw rcs none none (aa (-1))) (by exact rwL I.lR c1)))) (show 67+202*67<=20000 by decide)) c3 (Nat.lt_of_lt_of_le r1 c0) c1 c5)⟩
 ·cases I with
  |mk F I tL hL=>exact aT hL
 ·cases I with
  |mk F I tL hL er mem c2 c3 c0 c1 c5=>exact k (.mk F I tL hL (gw _) c1 (Y160 c2) c3 c5)
def gvC(C:Cx):EF:=(eX (cC C) [".0","told","due"] (iL (eN "given")) (wQ 2 (asC (aN "told") (asC (aN "due") asN))) (aX (tE (aA (aS not) (eN "told") (eN "due"))) (tK ag)) (eY (eN "due")))
theorem aFk{a b:V}(q:R (upd (upd lo "told" a) "due" b) H):wQ 2 (asC (aN "told") (asC (aN "due") asN)) (.tup [a,b]) lo H R:=kch (B:=(2=2/\R (upd (upd lo "told" a) "due" b) H)) ⋯ ⟨rfl,q⟩
theorem v9{α:Type}:∀ l:ac α,(l.flatMap λ_=>([]:ac V))= []
 | []=>rfl
 |_::l=>v9 l
theorem law_6(J:LX X L xs r0 rn gb lo H)(k:∀ {H'},LX X L xs r0 rn gb lo H'->K .next lo H'):yH X lo H K:=by
 have J0:=J
 cases J with
 | @mk T s R G E ra rb gn rcs ecs rs ers F I tL hL c0 c1 c2 c3 c5=>
 refine xEAAA I.gv λps h1 h2 h3 h4=>?_
 refine qZ (show gvC C lo H _ from lI pV (λ_=>[]) (λ_=>vx) ps (F _ (.ref G) ⋯) (aT h1) trivial (by rw[v9];decide) (λp hp=>⟨λ{lo1 H1 acc P} _ x ha hal kk=>?_⟩) λ{H'} x h'=>lA (no_i ?_ (k (J0.plain (x.trans (.app _ _))))))
 ·obtain⟨_,_,g,g1,g2⟩:=h4 p hp
  exact aFk (gK (fD (bA (aY ((show upd (upd lo1 "told" (.ref p.1)) "due" (.ref p.2) "told" =upd lo1 "told" (.ref p.1) "told" by kernel_rfl).trans cH) (aY cH (ne_i (jF Op.v dO (aT (x _ _ g1)) (aT (x _ _ g2)) (λo _=>qI o) λo _=>qJ o) (aR (aR (put0 x ha rfl trivial kk)))))))))
 ·rw[v9]at h'
  exact jF (l:=([]:ac Op)) Op.v dO (aT (Hx.app _ _ _ _ h')) (kD H' []) (λo _=>qI o) λo _=>qJ o
theorem law_7(J:LX X L xs r0 rn gb lo H)(k:∀ {H'},K (.ret (.bool ag)) lo H'):yG X lo H K:=by
 refine show dX (aA (aS id) (askE X) (lcE X)) lo H K from sRet_i (bA (ask_i X J λ{H' c c'} J' e=>Lp.mk (H:=H') ?_ k))
 delta aS
 rw[e];rfl
def t0(s y E R G:Nat):Tags:=λi=>if i=s then(5,0) else if i=y then(9,0) else if i=E then(4,0) else if i=R then(2,0) else if i=G then(3,0) else(0,0)
theorem t0_10(h:t0 s y E R G c=(10,j)):fe:=by
 unfold t0 at h
 split at h
 ·cases h
 ·split at h
  ·cases h
  ·split at h
   ·cases h
   ·split at h
    ·cases h
    ·split at h
     ·cases h
     ·cases h
theorem t0_0(h1:i≠s)(h2:i≠y)(h3:i≠E)(h4:i≠R)(h5:i≠G):t0 s y E R G i=(0,0):=(aq h1).trans ((aq h2).trans ((aq h3).trans ((aq h4).trans (aq h5))))
theorem tupA_i{a b:Nat}(q:R (upd (upd lo "first" (.ref a)) "second" (.ref b)) H):cG 2 (asC (aN "first") (asC (aN "second") asN)) (.tup [.ref a,.ref b]) lo H R:=kch (B:=(2=2/\R (upd (upd lo "first" (.ref a)) "second" (.ref b)) H)) ⋯ ⟨rfl,q⟩
theorem eL2n_i(h:f lo H λv H1=>Lp (mkL [v,.none] H1) Q):b9 (esC f (esC (eK .none) esN)) lo H Q:=h
theorem aBb(hl:sc.length<=63)(hs:lo "script" =aa (.ref rs))(h:LI H rs sc)(R:SF)(k:∀ {lo' H' L xs},LX X L xs 0 0 0 lo' H'->Hx H H'->lo' "script" =aa (.ref rs)->R lo' H' K):aB (yN X) (aB (yM X) (aB (yL X) (aB (yK X) R))) lo H K:=by
 refine aI (oY (bV (aP (aY hs (b8 (aCs X hl h λ{H1 ra rb a b} x1 ha hb al bl=>tupA_i (aH ?_)))))))
 have F1:Fs [("second",.ref rb),("first",.ref ra),("script",.ref rs)] (upd (upd lo "first" (.ref ra)) "second" (.ref rb)):=Fs.cons (Fs.cons (λx v e=>by
  have:=mem_of_lookup e
  rw[cy]at this
  cases this
  exact hs) "first" (.ref ra)) "second" (.ref rb)
 revert F1
 generalize upd (upd lo "first" (.ref ra)) "second" (.ref rb)=lo
 refine λF1=>(aI (d0 (bV (aP (cL (aP (aY (F1 _ (.ref ra) ⋯) (aP (aY (F1 _ (.ref rb) ⋯) (aP (cL (b8 (y7 X (aT ha) (aT hb) (Y140 al) (Y140 bl) λ{H2 rd rj rp n f} x2 S fv=>aH ?_)))))))))))))
 have F2:=F1.cons "matcher" (.ref H1.length)
 have fS:=aM H1
 revert F2 S fS
 generalize H1.length=s
 generalize upd lo "matcher" (.ref s)=lo
 refine λS F2 fS=>(aI (d0 (uZ (eL2n_i (xH X (F2 _ (.ref ra) ⋯) (F2 _ (.ref rb) ⋯) S.ia S.ib al bl λ{H3 r0 W} x3 h0 O f0=>(Lp.mk (by delta mkL;exact aw (show 2<1000000 by decide)) ?_))))))
 have x4:=x3.trans (Hx.app H3 [MO.list [V.ref r0,.none]])
 have h0':=Hx.app H3 [MO.list [V.ref r0,.none]] _ _ h0
 have g4:=bC H3 (MO.list [V.ref r0,.none])
 have f4:=x3.no (aM H3)
 have n4:r0≠H3.length:=λq=>aE ((aM H3).symm.trans (q▸h0))
 revert x4 g4 f4 n4 h0'
 generalize H3.length=y
 generalize H3++[MO.list [V.ref r0,.none]]=H4
 refine λx4 h0' g4 f4 n4=>(Lp.mk (by delta mkL;exact aw (show 1<1000000 by decide)) (aH ?_))
 have x5:=Hx.app H4 [MO.list [V.ref y]]
 have g5:=bC H4 (MO.list [V.ref y])
 have f5:=aM H4
 have F3:=F2.cons "eras" (.ref H4.length)
 revert x5 g5 f5 F3
 generalize H4.length=E
 generalize H4++[MO.list [V.ref y]]=H5
 generalize upd lo "eras" (.ref E)=lo
 refine λx5 g5 f5 F3=>(aI (show bO ["readers","given"] (bD (esC (b9 esN) (esC (b9 esN) esN))) lo H5 _ from wZ (lA (lA ⟨by decide,rfl,aH ?_⟩))))
 have F4:=(F3.cons "given" (.ref (H5++[MO.list []]).length)).cons "readers" (.ref H5.length)
 have x6:=Hx.app H5 [MO.list []]
 have g6:=bC H5 (MO.list [])
 have f6:=aM H5
 revert x6 g6 f6 F4
 generalize H5.length=rR
 generalize H5++[MO.list []]=H6
 intro F4 x6 g6 f6
 have x7:=Hx.app H6 [MO.list []]
 have g7:=bC H6 (MO.list [])
 have f7:=aM H6
 revert x7 g7 f7 F4
 generalize H6.length=rG
 generalize H6++[MO.list []]=H7
 generalize upd (upd lo "given" (.ref rG)) "readers" (.ref rR)=lo
 intro F4 x7 g7 f7
 have ne:∀ {i j:Nat}{m:MO}{HH:MH},HH[i]? =aa m->HH[j]? =none->i≠j:=λh1 h2 q=>aE (h2.symm.trans (q▸h1))
 have o2:∀ {i:Nat}{m:MO},H2[i]? =aa m->i≠s->t0 s y E rR rG i=(0,0):=λ{i m} h n=>t0_0 n (ne h f4) (ne (x4 _ _ h) f5) (ne (x5 _ _ (x4 _ _ h)) f6) (ne (x6 _ _ (x5 _ _ (x4 _ _ h))) f7)
 have s4:=x4 _ _ S.o
 have x47:=x5.trans (x6.trans x7)
 have x27:=x4.trans x47
 have os:∀ {i:Nat}{m:MO},H1[i]? =aa m->i≠s:=λh=>ne h fS
 have t0r:t0 s y E rR rG r0=(0,0):=t0_0 (λq=>aE (f0.symm.trans (q▸S.o))) n4 (ne h0' f5) (ne (x5 _ _ h0') f6) (ne (x6 _ _ (x5 _ _ h0')) f7)
 have I:Inv X H7 (t0 s y E rR rG) s rR rG E ra rb [] [y] [] [⟨W,none⟩] 0:=by
  refine⟨x7 _ _ g6,((aq ((ne (x5 _ _ s4) f6).symm)).trans ((aq ((ne (x5 _ _ g4) f6).symm)).trans ((aq ((ne g5 f6).symm)).trans (aw rfl)))),rfl,nofun,((x6.trans x7) _ _ g5),((aq ((ne s4 f5).symm)).trans ((aq ((ne g4 f5).symm)).trans (aw rfl))),rfl,λe w x q1 q2=>?_,⟨0,⟨W,none⟩,none,rfl,rfl,MZ.fresh (S.hx x27) ⋯ ⋯ al bl O ⟨by kernel_rfl,by kernel_rfl,by kernel_rfl,by kernel_rfl⟩ (aw rfl) (o2 (x2 _ _ ha) (os ha)) (o2 (x2 _ _ hb) (os hb)) (o2 S.d λq=>?_) (o2 S.j λq=>?_) (λv r q=>?_) λc m q _=>t0_10 q⟩,⟨[],g7,((aq ((ne (x6 _ _ (x5 _ _ s4)) f7).symm)).trans ((aq ((ne (x6 _ _ (x5 _ _ g4)) f7).symm)).trans ((aq ((ne (x6 _ _ g5) f7).symm)).trans ((aq ((ne g6 f7).symm)).trans (aw rfl))))),rfl,(λ_ h=>ba h List.not_mem_nil)⟩,⟨a,b,o2 (x2 _ _ ha) (os ha),o2 (x2 _ _ hb) (os hb),x27 _ _ (x2 _ _ ha),x27 _ _ (x2 _ _ hb),al,bl⟩,λc m j q _=>(t0_10 q).elim⟩
  ·cases e with
   |zero=>
    exact cxS q1 (cxS q2 ⟨((aq ((ne S.o f4).symm)).trans (aw rfl)),.of O.cod al bl,nofun,r0,t0r,(x47 _ _ g4),x47 _ _ h0'⟩)
   |succ e=>cases q1
  ·exact nomatch (Option.some.inj (S.d.symm.trans ((bg (H2[·]?) q).trans S.o)))
  ·exact nomatch (Option.some.inj (S.j.symm.trans ((bg (H2[·]?) q).trans S.o)))
  ·rcases S.bj v with ⟨z,_⟩ |⟨r',js,z1,z2,z3⟩
   ·exact aE (z.symm.trans q)
   ·cases q.symm.trans z1
    obtain⟨m,z⟩:=xS z2
    refine o2 z λv=>?_
    subst v
    have z2:H2[r]?.bind MO.vs=_:=z2
    cases (S.o▸z2)
 exact k (.mk (F4.re (fLw s rR rG E ra rb) ⋯) I t0r (x47 _ _ h0') (gw 0) (gw 0) (gw 0) (λ_ h=>ba h List.not_mem_nil) (show 1<=5 by decide)) (x1.trans (x2.trans x27)) (F4 _ (.ref rs) ⋯)
theorem law_ok(hl:sc.length<=63)(h:LI H rs sc)(k:∀ {H'},Q (.bool ag) H'):c_law X [.ref rs] H Q:=by
 refine⟨rfl,?_⟩
 have F:Fs [("script",.ref rs)] (loB ["script"] [.ref rs] lo0):=Fs.cons (l:=[]) nofun "script" (.ref rs)
 show aD0 X (loB ["script"] [.ref rs] lo0) H (kY Q)
 revert F
 generalize loB ["script"] [.ref rs] lo0=lo
 refine λF=>(aBb X hl (F _ (.ref rs) ⋯) h _ λ{lo1 H1 L xs} J x1 hs=>aI (law_4 X hl hs (x1.li h) J λJ r1=>aH (aI (law_5 X J r1 λJ=>aH (aI (law_6 X J λJ=>aH (aI (law_7 X J k))))))))
theorem zE(w:jn):((KL w.params).lookup wm).isSome=ag:=by kernel_rfl
theorem aCv(w:jn){s:ak}(hk:∀ b o,(H1 w).get? b=aa o->s.heap.get? b=aa o):s.heap.NoLimit:=⟨_,xG (hk _ _ (wS w _ _ (Option.eq_some_of_isSome (zE w)))) ⋯,by kernel_rfl⟩
theorem sZ:∀ (ns:ac Int) (ts:ac Tok),ts.length=ns.length->VRs ρ h ((ns.zip ts).map λx=>Value.int x.1 x.2) (ns.map V.int)
 | [],ts,_=>by cases ts<;>exact VRs.nil
 |n::ns,[],h=>nomatch h
 |n::ns,t::ts,h=>VRs.cons (VR.int _ _) (sZ ns ts (Nat.succ.inj h))
theorem walk(w:jn)(s₁:ak)(a:bz)(ns:ac Int)(ts:ac Tok)(hk:∀ b o,(H1 w).get? b=aa o->s₁.heap.get? b=aa o)(hg:s₁.gens= #[])(ht:ts.length=ns.length)(hn:ns.length<=63)(hl:s₁.heap.IsList a ((ns.zip ts).map λx=>Value.int x.1 x.2).toArray)(h0:(H1 w).get? a=none):ar (gz pw w) xj (call (.ref 277) [.ref a]) (λv s'=>v= .bool ag/\(∀ b o,s₁.heap.get? b=aa o->s'.heap.get? b=aa o)/\s'.os=s₁.os/\pv s'.gens) (λ_ _=>fe) s₁:=by
 have S:Sim (mkCx pw w s₁ (aCv w hk) (gsh w.params)) [.ro (ns.map V.int)] [⟨a,a,none⟩] s₁:=by
  refine⟨rfl,λ_ _ e=>e,λi m l hm hl'=>?_,λi l hl'=>?_,λi j li lj hi hj ne=>?_,λi j li lj k hi hj ne=>?_,rfl,.of_eq hg⟩
  ·cases i with
   |zero=>exact cxS hm (cxS hl' ⟨rfl,rfl,_,hl,sZ ns ts ht⟩)
   |succ i=>cases hm
  ·cases i with
   |zero=>exact .inl ⟨_,rfl⟩
   |succ i=>cases hl'
  ·cases i with
   |zero=>cases j with
    |zero=>exact ba rfl ne
    |succ j=>cases hj
   |succ i=>cases hi
  ·cases i with
   |zero=>cases j with
    |zero=>exact ba rfl ne
    |succ j=>cases hj
   |succ i=>cases hi
 refine wmN ((cv_law ⟨w,hk,λ_ _ _ _=>rfl⟩).call (vs:=[.ref 0]) (Q:=λv _=>v= .bool ag) ⟨rfl,by decide+kernel,by decide+kernel⟩ S (.cons (VR.ref (l:=⟨a,a,none⟩) rfl) .nil) (law_ok ⟨w,hk,λ_ _ _ _=>rfl⟩ hn rfl λ{_}=>rfl)) λx s' p=>?_
 cases p with
 |mk S' N r q=>
  subst q
  cases r
  exact⟨rfl,S'.keep,S'.os,S'.bare⟩
theorem holds01:PySem.Challenge.rw_dm0053_01.Holds:=head walk
end Mine.Internal
theorem PySem.Challenge.cw_dm0053_01_holds : PySem.Challenge.rw_dm0053_01.Holds :=
 Mine.Internal.holds01
