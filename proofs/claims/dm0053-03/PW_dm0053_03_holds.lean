import PyProof.Rows.All
import KE.KDictLaws
import KE.KFromBytes
import Wide.FinOn
import OpenK.AllK
import Wide.All
import Lean
import PySem.Challenge.RW_dm0053_03
set_option Elab.async false
set_option genInjectivity false
set_option genSizeOf false
set_option genCtorIdx false
set_option maxRecDepth 100000
set_option tactic.hygienic false
set_option linter.all false
open PySem PySem.W PyProof.Rows PySem.Calls
namespace Mine.Internal
local macro_rules
| `(tactic| rfl') => `(tactic| kernel_rfl)
local macro_rules
| `(⋯) => `(by kernel_rfl)
local macro_rules
| `(def $n:declId $s:optDeclSig $v:declVal) => `(noncomputable def $n:declId $s:optDeclSig $v:declVal)
open List (getElem?_eq_none_iff)

open Nat (ble beq blt)
open Option (pure_def)

open _root_.Option renaming some→aa,bind_eq_some_iff→aq,map_eq_some_iff→dy,map_some→um,bind_eq_bind→yj
open _root_ renaming List→ae,Option→aj,decide_eq_true→ay,if_neg→bc,if_pos→bo,absurd→bw,decide_eq_false→cc,of_decide_eq_true→dx,congrArg→ei,False→fh,Bool→fq,cond_true→fz,if_false→jh,cond_false→jq,Array→om,beq_self_eq_true→pt,String→qt,bne_self_eq_false→ve,True→vt,Unit→wq,or_false→wv,if_true→xk,beq_eq_false_iff_ne→xq,bne_iff_ne→yi
open _root_.List renaming length_append→af,length_map→ar,map_append→au,length_singleton→az,mem_cons_self→be,mem_append_right→bg,append_assoc→bn,mem_cons_of_mem→bq,mem_singleton→cq,mem_append→cu,append_nil→cw,prefix_refl→cx,mem_cons→cy,mem_append_left→cz,getD_eq_getElem?_getD→dc,getElem?_eq_getElem→df,getElem?_append_right→dh,length_cons→di,mem_of_getElem?→dm,eq_nil_of_length_eq_zero→dq,not_mem_nil→dt,getElem?_append_left→eo,getElem?_set_self→fe,map_cons→fp,pairwise_cons→ip,append_eq_nil_iff→iq,getElem?_of_mem→iu,all_eq_true→jd,getElem?_set_ne→jf,pairwise_singleton→jg,getElem?_eq_none→ji,concat_eq_append→jj,getElem?_map→jm,cons_append→jw,flatMap_append→kj,nil_append→kn,eq_nil_or_concat→kx,mem_map_of_mem→ly,mem_map→nu,forIn_cons→oe,length_nil→og,prefix_append→ou,map_eq_nil_iff→pj,flatMap_cons→qa,length_range→ri,nodup_append→si,mem_flatMap→uw,set_set→vd,drop_left→vk,nodup_cons→wc,flatten_cons→we,perm_middle→xh,sum_cons→xi,mapM_cons→xj,find?_cons→yd,head?_drop→yh,forIn_nil→yu,map_map→zg
open _root_.Bool renaming true→ak,false→am,and_eq_true_iff→dp,false_eq_true→gu
open PySem renaming Shared→aw,wpAny→ax,Value→bx,wpAny_holding→bz,builtinLookup_eq_fast→dk,Params→dr,Addr→dv,starEach→eh,sizeLine_eq→eu,typeLookup_type→fg,assignEach→fu,wpAny_callSpecial?_slot→fx,mainGlobals→gh,Around→gj,wpAny_standAt→ie,wpAny_call_entry→ii,callEnvC→ij,wpAny_mono→ir,foldedSetIterable→iw,wpAny_newObj_type→iy,model→iz,wpAny_seqItems→jb,isSubtype_type→je,eval→jl,typeLookup→jn,seqIndex?→jt,wpAny_field→jv,compareOp→jx,wpAny_call→jy,Stmt→jz,wpAny_of_eq→kg,codeAny_call_builtin→kh,World→ko,swappedStores→kq,attributeBase→kr,builtinsNs→kz,NameKind→lh,slot_listiter_next→lr,firstArgMember→lx,codeAny→ma,PyData→mh,pyNext→mi,backTo→mq,entryFor_of_tree→nh,wpAny_isInstance→nk,codeAny_mono→ny,codeAny_of_tree→oq,theTreesLotGoes→ot,Comprehension→ow,wpAny_attempt→ox,wpAny_Call_ofName→oz,Heap→pa,execs→pc,sysModules→pd,isSubtype→po,assignInOrder→qc,wpAny_onRaise→qd,entryFor→qe,wpAny_updateSeq→qf,leftWithCleanup→qg,table→qj,builtinKind→qk,valueAt→qo,wpAny_pyNext_list_item→qp,wpAny_pyIter_list→qr,letTemporaryGo→qx,wpAny_setField→qy,builtinsGlobalAsBooted→se,fresh→ss,wpAny_items_cons→su,argsOk→sx,wpAny_rule→sy,isInstance→td,GenState→th,binaryOp→tj,interactive→tm,Result→tu,typeOf→tw,entry_listiter_next→tz,callSpecial?→ud,swapsWith→uf,noteFrame→ug,wpAny_setSeqItemAt→ul,intKind_is→uo,checkBoundCall→uq,wpAny_newFunctionEnv_cells→ur,args_listiter_next→ut,newExc→uu,isSubtype_stop→uv,Program→ux,intKind→uy,wpAny_assign_Name→uz,getAttr→vc,wpAny_handled→vh,foldedForSure→vj,wpAny_listSubscript_int→vl,seqItems?→vm,Scope→vn,wpAny_pyIter_gen→vo,specialOf→vp,opaqueClassAbove→vq,standAt→vu,holding→vv,OsState→vx,wpAny_items_nil→wg,wpAny_execs_nil→wh,wpAny_specialOf→wi,letOwnedTupleGo→wk,execs_cons_wrap→wl,wpAny_pyNext_list_end→wm,assign→wt,pyIter→wu,entryFor_alias→ww,wpAny_loadPart→wx,FuncData→wy,wpAny_throw→xa,unsupported→xb,staticOf→xg,updateSeq→xl,behindInMarks→xu,Reads→xv,plainId_quiet→xw,comprehension→xx,field→xy,table_eq_tree→ya,bltViewBooted→yc,call_meets→yf,Keyword→yk,wpAny_typeOf→yn,cStatics→yp,callerA→yq,DictEntry→yt,denote→yy,unpackItems→yz,keywordEach→za,wpAny_letGo→zb,Flow→zd,plainId→ze,Builtin→zf,callWith→zi,newTuple→zj,mainNs→zn,Model→zs
open _root_.Int renaming le_refl→dj,le_trans→dw,natCast_nonneg→ee,lt_irrefl→ja,lt_of_lt_of_le→jr,lt_add_of_pos_right→ju,sub_nonneg_of_le→ku,zero_add→ky,toNat_natCast→mr,le_of_lt→oh,not_lt→oy,add_zero→pb,lt_or_eq_of_le→pi,max_eq_left→qh,add_assoc→sv,le_max_right→ue,ofNat_le→ui,emod_nonneg→vg,le_of_eq→zh
open PySem.W renaming boot_heap→du,boot_drawn→fk,looks_findIn→mo,Looks→mx,boot_toks→pz,callWith_of→qi,topStub→rq,Frag→vi,methodObj→vr,check_slot→vw,absHeap→vy,looks_subIn→xc,ReadsAllW→xp,namesBound→yg,boot_o_0→yo,emptyDict→yv,kas_place→yx,findIn→zk,boot_o_2→zl,boot_o_4→zm,laidKept→zo
open _root_.Nat renaming lt_mul_div_succ→jc,zero_le→jo,le_of_ble_eq_true→jp,mul_div_le→mw,sub_self→mz,lt_of_le_of_lt→nq,le_add_left→ph,le_add_right→pu,succ_le_succ→qu,succ_ne_zero→qw,lt_trans→tq,succ_ne_self→uc,lt_or_ge→uj,ne_of_lt→uk,le_succ→ym,succ_pos→zp
open PyProof.Rows renaming slot_tupleiter_next→my,AllBare→tf,entry_tupleiter_next→xd,oneType'→xf,pairsOf→xo,args_tupleiter_next→xr,listUpdate_at→xz,IsTupIter→yw,seqEpoch_at→zc
open _root_.LawfulBEq renaming eq_of_beq→uh
section
variable{a b c d e f g h i j k l:Int}{m n p q r s t u v w x y:Nat}
def zzB:=@wpAny_bind
def zzP:=@wpAny_pure
theorem zzN(h:b≠0:=by decide):0<=a%b:=Int.emod_nonneg a h
theorem zzL(h:0<b:=by decide):a%b<b:=Int.emod_lt_of_pos a h
@[elab_as_elim]theorem rwL{α:Sort u}{motive:α->Prop}{a b:α}(h:a=b)(k:motive b):motive a:=h▸k
@[elab_as_elim]theorem rwR{α:Sort u}{motive:α->Prop}{a b:α}(h:a=b)(k:motive a):motive b:=h▸k
@[elab_as_elim]theorem cxSP{α:Type u}{β:Type v}{motive:α->β->Prop}{a c:α}{b d:β}(h:aa (a,b)=aa (c,d))(k:motive a b):motive c d:=by cases h; exact k
@[elab_as_elim]theorem cxS{α:Type u}{motive:α->Prop}{a b:α}(h:aa a=aa b)(k:motive a):motive b:=by cases h; exact k
@[elab_as_elim]theorem cxP{α:Type u}{β:Type v}{motive:α->β->Prop}{a c:α}{b d:β}(h:(a,b)=(c,d))(k:motive a b):motive c d:=by cases h; exact k
theorem cySP{α:Type u}{β:Type v}{a c:α}{b d:β}{P:Prop}(h:aa (a,b)=aa (c,d))(k:a=c->b=d->P):P:=by cases h; exact k rfl rfl
theorem cyS{α:Type u}{a c:α}{P:Prop}(h:aa a=aa c)(k:a=c->P):P:=by cases h; exact k rfl
theorem cyM{α:Type u}{a:α}{P:Prop}(h:aa a=none):P:=nomatch h
namespace Z
inductive T |v (i:Nat) |k (n:Nat) |o (c:Nat) (x y:T)
noncomputable abbrev Ln:=Int×ae Int×ae Int
noncomputable abbrev Al:=ae (ae Ln×Ln)
def dot(a:ae Int):ae Int->Int:=a.rec (λq=>0) λc q r x=>match x with | []=>0 |x::xs=>c*x+r xs
def ladd(a:ae Int):ae Int->ae Int:=a.rec (λb=>b) λc cs r b=>match b with | []=>c::cs |x::xs=>(c+x)::r xs
theorem i4(a b c d:Int):a+b+(c+d)=a+c+(b+d):=by omega
theorem yJ(a:ae Int):∀ b x,dot (ladd a b) x=dot a x+dot b x:=by
 induction a with
 |nil=>exact λb x=>(ky _).symm
 |cons a as ih=>
  intro b x
  cases b with
  |nil=>exact(pb _).symm
  |cons b bs=>
   cases x with
   |nil=>rfl
   |cons x xs=>
    show(a+b)*x+dot (ladd as bs) xs=(a*x+dot as xs)+(b*x+dot bs xs)
    rw[ih,Int.add_mul,i4]
theorem yI(k:Int)(a:ae Int):∀ x,dot (a.map (k* ·)) x=k*dot a x:=by
 induction a with
 |nil=>exact λx=>(Int.mul_zero _).symm
 |cons a as ih=>
  intro x
  cases x with
  |nil=>exact(Int.mul_zero _).symm
  |cons x xs=>
   refine(?_:k*a*x+dot (as.map (k* ·)) xs=k*(a*x+dot as xs))
   rw[ih,Int.mul_add,Int.mul_assoc]
def un(i:Nat):ae Int:=i.rec [1] λq r=>0::r
theorem aD5(i:Nat):∀ x:ae Int,dot (un i) x=x.getD i 0:=by
 induction i with
 |zero=>intro x;cases x with
  |nil=>rfl
  |cons x xs=>exact(pb _).trans (Int.one_mul _)
 |succ i ih=>intro x;cases x with
  |nil=>rfl
  |cons x xs=>exact(ei (·+_) (Int.zero_mul x)).trans ((ky _).trans (ih xs))
def la(a b:Ln):Ln:=(a.1+b.1,ladd a.2.1 b.2.1,ladd a.2.2 b.2.2)
def lm(k:Int)(a:Ln):Ln:=(k*a.1,a.2.1.map (k* ·),a.2.2.map (k* ·))
def ls(a b:Ln):Ln:=la a (lm (-1) b)
def lk(k:Int):Ln:=(k,[],[])
def ev(xs:ae Int)(ns:ae Nat)(l:Ln):Int:=l.1+(dot l.2.1 xs+dot l.2.2 (ns.map Nat.cast))
theorem aDw(xs:ae Int)(ns:ae Nat)(a b:Ln):ev xs ns (la a b)=ev xs ns a+ev xs ns b:=by
 show a.1+b.1+(dot (ladd _ _) _+dot (ladd _ _) _)=a.1+(_+_)+(b.1+(_+_))
 rw[yJ,yJ,i4 (dot a.2.1 xs)];exact i4 ..
theorem aDv(xs:ae Int)(ns:ae Nat)(k:Int)(a:Ln):ev xs ns (lm k a)=k*ev xs ns a:=by
 show k*a.1+(dot (List.map _ _) _+dot (List.map _ _) _)=k*(a.1+(_+_))
 rw[yI,yI,Int.mul_add,Int.mul_add]
theorem qP(xs:ae Int)(ns:ae Nat)(a b:Ln):ev xs ns (ls a b)=ev xs ns a-ev xs ns b:=by rw[ls,aDw,aDv,Int.neg_mul,Int.one_mul,Int.sub_eq_add_neg]
theorem pG(xs:ae Int)(ns:ae Nat)(k:Int):ev xs ns (lk k)=k:=pb k
def Sg(xs:ae Int)(ns:ae Nat)(g:ae Ln):Prop:=∀ q∈g,0<=ev xs ns q
def Sa(xs:ae Int)(ns:ae Nat)(a:Al)(z:Int):Prop:=∃ p∈a,Sg xs ns p.1/\ev xs ns p.2=z
def Sd(xs:ae Int)(ns:ae Nat)(d:ae (ae Ln)):Prop:=∃ g∈d,Sg xs ns g
def pr{β:Type}(f:ae Ln->Ln->Ln->ae β)(a b:Al):ae β:=a.flatMap λp=>b.flatMap λq=>f (p.1++q.1) p.2 q.2
theorem Sg.app{a b:ae Ln}(h:Sg xs ns a)(g:Sg xs ns b):Sg xs ns (a++b):=λq m=>(cu.mp m).elim (h q) (g q)
theorem Sg.sn{a:ae Ln}{l:Ln}(h:Sg xs ns a)(g:0<=ev xs ns l):Sg xs ns (a++[l]):=h.app λq m=>cq.mp m▸g
theorem Sg.nil:Sg xs ns []:=λq h=>bw h dt
theorem rD{f:ae Ln->Ln->Ln->ae β}{a b:Al}{x y:Int}{P:β->Prop}(h:Sa xs ns a x)(g:Sa xs ns b y)(k:∀ u v w,Sg xs ns u->ev xs ns v=x->ev xs ns w=y->∃ z∈f u v w,P z):∃ z∈pr f a b,P z:=h.elim λp h=>g.elim λq g=>(k _ _ _ (h.2.1.app g.2.1) h.2.2 g.2.2).elim λz m=>⟨z,uw.mpr ⟨p,h.1,uw.mpr ⟨q,g.1,m.1⟩⟩,m.2⟩
theorem Sa.one{l:Ln}(h:ev xs ns l=z):Sa xs ns [([],l)] z:=⟨_,List.mem_singleton_self _,.nil,h⟩
def op(c:Nat)(x y:Nat×Int):Nat×Int:=List.getD [(x.1+y.1,x.2+y.2),(x.1-y.1,x.2-y.2),(max x.1 y.1,max x.2 y.2),(min x.1 y.1,min x.2 y.2),(x.2.toNat,(x.1:Int)),(0,-x.2)] c ((c-32)*x.1,((c-32:Nat):Int)*x.2)
def aN(f:Ln->Ln->Ln):Al->Al->Al:=pr λg p q=>[(g,f p q)]
def aC(f:Ln->Ln->Ln×Ln):Al->Al->Al:=pr λg p q=>[(g++[ls p q],(f p q).1),(g++[ls q p],(f p q).2)]
def one:Al:=[([],lk 0)]
def al(c:Nat)(x y:Al×Al):Al×Al:=List.getD [(aN la x.1 y.1,aN la x.2 y.2),(aC (λp q=>(ls p q,lk 0)) x.1 y.1,aN ls x.2 y.2),(aC (λp q=>(p,q)) x.1 y.1,aC (λp q=>(p,q)) x.2 y.2),
 (aC (λp q=>(q,p)) x.1 y.1,aC (λp q=>(q,p)) x.2 y.2),(aC (λp q=>(p,lk 0)) x.2 one,x.1),(one,aN (λp a=>lm (-1) p) x.2 one)] c (aN (λp a=>lm (c-32:Nat) p) x.1 one,aN (λp a=>lm (c-32:Nat) p) x.2 one)
def S2(xs:ae Int)(ns:ae Nat)(a:Al×Al)(x:Nat×Int):Prop:=Sa xs ns a.1 x.1/\Sa xs ns a.2 x.2
theorem Sa.zero:Sa xs ns Z.one 0:=.one (pG xs ns 0)
theorem Sa.aN{a b:Al}{x y:Int}{f:Ln->Ln->Ln}(k:∀ p q,ev xs ns p=x->ev xs ns q=y->ev xs ns (f p q)=z)(h:Sa xs ns a x)(g:Sa xs ns b y):Sa xs ns (aN f a b) z:=rD h g λu v w s e e'=>⟨_,List.mem_singleton_self _,s,k v w e e'⟩
theorem Sa.aC{a b:Al}{x y:Int}{f:Ln->Ln->Ln×Ln}(k:∀ p q,ev xs ns p=x->ev xs ns q=y->(y<=x->ev xs ns (f p q).1=z)/\(x<=y->ev xs ns (f p q).2=z))(h:Sa xs ns a x)(g:Sa xs ns b y):Sa xs ns (aC f a b) z:=rD h g λu v w s e e'=>(Int.le_total y x).elim
  (λl=>⟨_,.head _,s.sn (qP xs ns v w▸ku (e▸e'▸l)),(k v w e e').1 l⟩) λl=>⟨_,.tail _ (.head _),s.sn (qP xs ns w v▸ku (e▸e'▸l)),(k v w e e').2 l⟩
theorem al_ok(c:Nat){a b:Al×Al}{x y:Nat×Int}(h:S2 xs ns a x)(g:S2 xs ns b y):S2 xs ns (al c a b) (op c x y):=by
 have A:∀ {x y:Int} (p q:Ln),ev xs ns p=x->ev xs ns q=y->ev xs ns (la p q)=x+y:=λp q e e'=>by rw[aDw,e,e']
 have S:∀ {x y:Int} (p q:Ln),ev xs ns p=x->ev xs ns q=y->ev xs ns (ls p q)=x-y:=λp q e e'=>by rw[qP,e,e']
 have M:∀ (k:Int){x y:Int} (p q:Ln),ev xs ns p=x->ev xs ns q=y->ev xs ns (lm k p)=k*x:=λk d d p q e e'=>by rw[aDv,e]
 cases c with
 |zero=>exact⟨h.1.aN (z:=((x.1+y.1:Nat):Int)) A g.1,h.2.aN A g.2⟩
 |succ c=>cases c with
  |zero=>exact⟨Sa.aC (z:=((x.1-y.1:Nat):Int)) (f:=λp q=>(ls p q,lk 0)) (λp q e e'=>⟨λl=>(S p q e e').trans (Int.ofNat_sub (ui.mp l)).symm,λl=>(pG _ _ _).trans (ei Nat.cast (Nat.sub_eq_zero_of_le (ui.mp l)).symm)⟩) h.1 g.1,h.2.aN S g.2⟩
  |succ c=>cases c with
   |zero=>exact⟨h.1.aC (z:=((max x.1 y.1:Nat):Int)) (f:=λp q=>(p,q)) (λp q e e'=>⟨λl=>e.trans (ei Nat.cast (Nat.max_eq_left (ui.mp l)).symm),λl=>e'.trans (ei Nat.cast (Nat.max_eq_right (ui.mp l)).symm)⟩) g.1,
     h.2.aC (z:=max x.2 y.2) (f:=λp q=>(p,q)) (λp q e e'=>⟨λl=>e.trans (qh l).symm,λl=>e'.trans (Int.max_eq_right l).symm⟩) g.2⟩
   |succ c=>cases c with
    |zero=>exact⟨h.1.aC (z:=((min x.1 y.1:Nat):Int)) (f:=λp q=>(q,p)) (λp q e e'=>⟨λl=>e'.trans (ei Nat.cast (Nat.min_eq_right (ui.mp l)).symm),λl=>e.trans (ei Nat.cast (Nat.min_eq_left (ui.mp l)).symm)⟩) g.1,
      h.2.aC (z:=min x.2 y.2) (f:=λp q=>(q,p)) (λp q e e'=>⟨λl=>e'.trans (Int.min_eq_right l).symm,λl=>e.trans (Int.min_eq_left l).symm⟩) g.2⟩
    |succ c=>cases c with
     |zero=>exact⟨h.2.aC (z:=(x.2.toNat:Int)) (f:=λp q=>(p,lk 0)) (λp q e e'=>⟨λl=>e.trans (Int.toNat_of_nonneg l).symm,λl=>(pG _ _ _).trans (ei Nat.cast (Int.toNat_of_nonpos l).symm)⟩) .zero,h.1⟩
     |succ c=>cases c with
      |zero=>exact⟨.zero,h.2.aN (λp q e e'=>(M (-1) p q e e').trans (by rw[Int.neg_mul,Int.one_mul];rfl)) .zero⟩
      |succ c=>exact⟨h.1.aN (M _) .zero,h.2.aN (M _) .zero⟩
def den(xs:ae Int)(ns:ae Nat)(t:T):Nat×Int:=t.rec (λi=>(ns.getD i 0,xs.getD i 0)) (λn=>(n,(n:Int))) λc q q x y=>op c x y
def alt(t:T):Al×Al:=t.rec (λi=>([([],0,[],un i)],[([],0,un i,[])])) (λn=>([([],lk n)],[([],lk n)])) λc q q x y=>al c x y
theorem aE0(xs:ae Int)(ns:ae Nat)(t:T):S2 xs ns (alt t) (den xs ns t):=by
 induction t with
 |v i=>
  refine⟨.one ?_,.one ?_⟩
  ·refine(ky _).trans ((ky _).trans ((aD5 i _).trans ?_))
   show List.getD (List.map Nat.cast ns) i (Nat.cast 0)=_
   refine rwL dc (rwL jm ?_);show _=((List.getD ns i 0:Nat):Int);refine rwL dc ?_;cases ns[i]? <;>rfl
  ·exact(ky _).trans ((ei (_+ ·) rfl).trans ((pb _).trans (aD5 i xs)))
 |k n=>exact⟨.one (pG ..),.one (pG ..)⟩
 |o c x y h g=>exact al_ok c h g
def rL(a b:Al)(l:Ln->Ln->ae (ae Ln)):ae (ae Ln):=pr (λg p q=>(l p q).map (g++ ·)) a b
def dP(xs:ae Int)(ns:ae Nat)(t:T):Prop:=t.rec (λa=>fh) (λa=>fh) λc x y p q=>
 List.getD [(den xs ns x).1<=(den xs ns y).1,(den xs ns x).1=(den xs ns y).1,(den xs ns x).2<=(den xs ns y).2,(den xs ns x).2=(den xs ns y).2,¬p,p/\q,p\/q] c (p->q)
def cr(p q:ae (ae Ln)):ae (ae Ln):=p.flatMap λg=>q.map (g++ ·)
def aCk(p q:Ln):ae (ae Ln):=[[ls q p]]
def aCl(p q:Ln):ae (ae Ln):=[[ls (ls p q) (lk 1)]]
def aDz(p q:Ln):ae (ae Ln):=[[ls q p,ls p q]]
def aD0(p q:Ln):ae (ae Ln):=[[ls (ls p q) (lk 1)],[ls (ls q p) (lk 1)]]
def dn(t:T):ae (ae Ln)×ae (ae Ln):=t.rec (λa=>([],[[]])) (λa=>([],[[]])) λc x y p q=>
 List.getD [(rL (alt x).1 (alt y).1 aCk,rL (alt x).1 (alt y).1 aCl),(rL (alt x).1 (alt y).1 aDz,rL (alt x).1 (alt y).1 aD0),(rL (alt x).2 (alt y).2 aCk,rL (alt x).2 (alt y).2 aCl),
  (rL (alt x).2 (alt y).2 aDz,rL (alt x).2 (alt y).2 aD0),(p.2,p.1),(cr p.1 q.1,p.2++q.2),(p.1++q.1,cr p.2 q.2)] c (p.2++q.1,cr p.1 q.2)
theorem Sd.app{p q:ae (ae Ln)}(h:Sd xs ns p\/Sd xs ns q):Sd xs ns (p++q):=h.elim (fun⟨g,m,s⟩=>⟨g,cz _ m,s⟩) fun⟨g,m,s⟩=>⟨g,bg _ m,s⟩
theorem Sd.cr{p q:ae (ae Ln)}(h:Sd xs ns p)(k:Sd xs ns q):Sd xs ns (cr p q):=h.elim λg h=>k.elim λg' k=>⟨g++g',uw.mpr ⟨g,h.1,nu.mpr ⟨g',k.1,rfl⟩⟩,h.2.app k.2⟩
theorem w6{a b:Al}{x y:Int}{l:Ln->Ln->ae (ae Ln)}(h:Sa xs ns a x)(g:Sa xs ns b y)(k:∀ p q,ev xs ns p=x->ev xs ns q=y->Sd xs ns (l p q)):Sd xs ns (rL a b l):=rD h g λu v w s e e'=>(k v w e e').elim λg h=>⟨_,nu.mpr ⟨g,h.1,rfl⟩,s.app h.2⟩
theorem aCd{x y:Int}{p q:Ln}(e:ev xs ns p=x)(e':ev xs ns q=y)(h:y<x):Sg xs ns [ls (ls p q) (lk 1)]:=λa m=>by rw[cq.mp m,qP,qP,pG,e,e'];exact ku (Int.le_sub_left_of_add_le h)
theorem aCj{x y:Int}{p q:Ln}(e:ev xs ns p=x)(e':ev xs ns q=y)(h:y<=x):0<=ev xs ns (ls p q):=by rw[qP,e,e'];exact ku h
theorem aCi{a b:Al}{x y:Int}(h:Sa xs ns a x)(g:Sa xs ns b y):(x<=y->Sd xs ns (rL a b aCk))/\(¬x<=y->Sd xs ns (rL a b aCl)):=⟨λl=>w6 h g λp q e e'=>⟨_,.head _,λc m=>cq.mp m▸aCj e' e l⟩,λl=>w6 h g λp q e e'=>⟨_,.head _,aCd e e' (Int.not_le.mp l)⟩⟩
theorem aDy{a b:Al}{x y:Int}(h:Sa xs ns a x)(g:Sa xs ns b y):(x=y->Sd xs ns (rL a b aDz))/\(¬x=y->Sd xs ns (rL a b aD0)):=⟨λl=>w6 h g λp q e e'=>⟨_,.head _,Sg.sn (a:=[_]) (λc m=>cq.mp m▸aCj e' e (zh l)) (aCj e e' (zh l.symm))⟩,
  λl=>w6 h g λp q e e'=>(Int.lt_or_gt_of_ne l).elim (λl=>⟨_,.tail _ (.head _),aCd e' e l⟩) λl=>⟨_,.head _,aCd e e' l⟩⟩
theorem dn_ok(t:T):(dP xs ns t->Sd xs ns (dn t).1)/\(¬dP xs ns t->Sd xs ns (dn t).2):=by
 induction t with
 |v i=>exact⟨False.elim,λq=>⟨_,.head _,.nil⟩⟩
 |k n=>exact⟨False.elim,λq=>⟨_,.head _,.nil⟩⟩
 |o c x y h g=>
  have X:=aE0 xs ns x
  have Y:=aE0 xs ns y
  cases c with
  |zero=>exact⟨λl=>(aCi X.1 Y.1).1 (ui.mpr l),λl=>(aCi X.1 Y.1).2 λz=>l (ui.mp z)⟩
  |succ c=>cases c with
   |zero=>exact⟨λl=>(aDy X.1 Y.1).1 (ei Nat.cast l),λl=>(aDy X.1 Y.1).2 λz=>l (Int.ofNat.inj z)⟩
   |succ c=>cases c with
    |zero=>exact aCi X.2 Y.2
    |succ c=>cases c with
     |zero=>exact aDy X.2 Y.2
     |succ c=>cases c with
      |zero=>exact⟨h.2,λl=>h.1 (Classical.not_not.mp l)⟩
      |succ c=>cases c with
       |zero=>exact⟨λl=>(h.1 l.1).cr (g.1 l.2),λl=>.app ((Classical.not_and_iff_not_or_not.mp l).imp h.2 g.2)⟩
       |succ c=>cases c with
        |zero=>exact⟨λl=>.app (l.imp h.1 g.1),λl=>(h.2 λz=>l (.inl z)).cr (g.2 λz=>l (.inr z))⟩
        |succ c=>exact⟨λl=>.app ((Classical.em _).elim (λz=>.inr (g.1 (l z))) λz=>.inl (h.2 z)),λl=>(h.1 (Classical.not_imp.mp l).1).cr (g.2 (Classical.not_imp.mp l).2)⟩
def sm(g:ae Ln):Nat->Ln×Nat:=g.rec (λs=>(lk 0,s)) λl q r s=>(la (lm (s%64:Nat) l) (r (s/64)).1,(r (s/64)).2)
def ng(b:Int->fq)(l:ae Int):fq:=l.rec ak λc q r=>cond (b c) r am
def gd(l:Ln):fq:=cond (decide (l.1<0)) (cond (ng (λc=>decide (c=0)) l.2.1) (ng (λc=>decide (c<=0)) l.2.2) am) am
def ck(d:ae (ae Ln)):Nat->fq:=d.rec (λq=>ak) λg q r s=>cond (gd (sm g s).1) (r (sm g s).2) am
theorem gD{a b:fq}(h:cond a b am=ak):a=ak/\b=ak:=by
 cases a with
 |true=>exact⟨rfl,h⟩
 |false=>exact bw h Bool.false_ne_true
theorem sm_ok{g:ae Ln}:∀ (s:Nat),Sg xs ns g->0<=ev xs ns (sm g s).1:=by
 induction g with
 |nil=>exact λs a=>zh (pG xs ns 0).symm
 |cons l g ih=>
  intro s h
  refine(?_:0<=ev xs ns (la (lm _ l) (sm g (s/64)).1))
  rw[aDw,aDv]
  exact Int.add_nonneg (Int.mul_nonneg (ee _) (h l (.head _))) (ih _ λq m=>h q (.tail _ m))
theorem ng_le{b:Int->fq}{l:ae Int}(k:∀ c x,b c=ak->0<=x->c*x<=0):∀ (x:ae Int),(∀ y∈x,0<=y)->ng b l=ak->dot l x<=0:=by
 induction l with
 |nil=>exact λq q q=>dj _
 |cons c l ih=>
  intro x h e
  cases x with
  |nil=>exact dj _
  |cons x xs=>exact Int.add_nonpos (k c x (gD e).1 (h x (.head _))) (ih xs (λy m=>h y (.tail _ m)) (gD e).2)
theorem aGi{l:ae Int}:∀ (x:ae Int),ng (λc=>decide (c=0)) l=ak->dot l x<=0:=by
 induction l with
 |nil=>exact λq q=>dj _
 |cons c l ih=>
  intro x e
  cases x with
  |nil=>exact dj _
  |cons x xs=>exact Int.add_nonpos (zh (dx (gD e).1▸Int.zero_mul x)) (ih xs (gD e).2)
theorem gd_no{l:Ln}(h:gd l=ak): ¬0<=ev xs ns l:=λg=>
 bw (dw g (Int.add_le_add_left (Int.add_nonpos (aGi xs (gD (gD h).2).1)
  (ng_le (λc x e h=>Int.mul_nonpos_of_nonpos_of_nonneg (dx e) h) (ns.map Nat.cast) (λy m=>by obtain⟨n,_,e⟩:=nu.mp m;exact e▸ee n) (gD (gD h).2).2)) l.1))
  (Int.not_le.mpr (by rw[pb];exact dx (gD h).1))
theorem ck_no{d:ae (ae Ln)}:∀ {s:Nat},ck d s=ak->¬Sd xs ns d:=by
 induction d with
 |nil=>exact λ_ ⟨_,m,_⟩=>bw m dt
 |cons g d ih=>
  intro s h ⟨g',m,k⟩
  cases m with
  |head=>exact gd_no (gD h).1 (sm_ok s k)
  |tail _ m=>exact ih (gD h).2 ⟨g',m,k⟩
def lit(f:Nat):Nat->Nat×Nat:=f.rec (λs=>(0,s)) λq r s=>cond (ble 32 (s%64)) ((s%64-32)+32*(r (s/64)).1,(r (s/64)).2) (s%64,s/64)
def dec(f:Nat):Nat->T×Nat:=f.rec (λs=>(.v 0,s)) λq r s=>
 cond (ble 40 (s%64)) (cond (ble 61 (s%64)) ((lit 30 (s/64)).rec λn s'=>cond (ble (s%64) 61) (.k n,s') ((r s').rec λx s=>(.o (n+32) x x,s))) (.v (s%64-40),s/64))
  ((r (s/64)).rec λx s'=>(r s').rec λy s''=>(.o (s%64) x y,s''))
theorem R(k:Nat)(xs:ae Int)(ns:ae Nat)(h:dP xs ns (dec 99 k).1=P:=by rfl')(c:ck (dn (dec 99 k).1).2 (dec 99 k).2=ak:=by rfl'):P:=h▸Classical.not_not.mp λz=>ck_no c ((dn_ok _).2 z)
end Z
theorem xA{G:Prop}(h:p0/\p1)(k:p0->p1->G):G:=k h.1 h.2
theorem xE{p0:α->Prop}{G:Prop}(h:∃ a0:α,p0 a0)(k:∀ a0,p0 a0->G):G:=h.elim λa0 h1=>k a0 h1
theorem xAA{G:Prop}(h:p0/\p1/\p2)(k:p0->p1->p2->G):G:=k h.1 h.2.1 h.2.2
theorem xAE{p1:α->Prop}{G:Prop}(h:p0/\∃ a0:α,p1 a0)(k:p0->∀ a0,p1 a0->G):G:=h.2.elim λa0 h1=>k h.1 a0 h1
theorem xEA{p0 p1:α->Prop}{G:Prop}(h:∃ a0:α,p0 a0/\p1 a0)(k:∀ a0,p0 a0->p1 a0->G):G:=h.elim λa0 h1=>k a0 h1.1 h1.2
theorem xEE{p0:α->β->Prop}{G:Prop}(h:∃ a0:α,∃ a1:β,p0 a0 a1)(k:∀ a0,∀ a1,p0 a0 a1->G):G:=h.elim λa0 h1=>h1.elim λa1 h2=>k a0 a1 h2
theorem xAAA{G:Prop}(h:p0/\p1/\p2/\p3)(k:p0->p1->p2->p3->G):G:=k h.1 h.2.1 h.2.2.1 h.2.2.2
theorem xAEA{p1 p2:α->Prop}{G:Prop}(h:p0/\∃ a0:α,p1 a0/\p2 a0)(k:p0->∀ a0,p1 a0->p2 a0->G):G:=h.2.elim λa0 h1=>k h.1 a0 h1.1 h1.2
theorem dY{p0 p1 p2:α->Prop}{G:Prop}(h:∃ a0:α,p0 a0/\p1 a0/\p2 a0)(k:∀ a0,p0 a0->p1 a0->p2 a0->G):G:=h.elim λa0 h1=>k a0 h1.1 h1.2.1 h1.2.2
theorem iW{p0 p1:α->β->Prop}{G:Prop}(h:∃ a0:α,∃ a1:β,p0 a0 a1/\p1 a0 a1)(k:∀ a0,∀ a1,p0 a0 a1->p1 a0 a1->G):G:=h.elim λa0 h1=>h1.elim λa1 h2=>k a0 a1 h2.1 h2.2
theorem vC{p0:α->β->γ->Prop}{G:Prop}(h:∃ a0:α,∃ a1:β,∃ a2:γ,p0 a0 a1 a2)(k:∀ a0,∀ a1,∀ a2,p0 a0 a1 a2->G):G:=h.elim λa0 h1=>h1.elim λa1 h2=>h2.elim λa2 h3=>k a0 a1 a2 h3
theorem xAAAA{G:Prop}(h:p0/\p1/\p2/\p3/\p4)(k:p0->p1->p2->p3->p4->G):G:=k h.1 h.2.1 h.2.2.1 h.2.2.2.1 h.2.2.2.2
theorem qC{p2 p3:α->Prop}{G:Prop}(h:p0/\p1/\∃ a0:α,p2 a0/\p3 a0)(k:p0->p1->∀ a0,p2 a0->p3 a0->G):G:=h.2.2.elim λa0 h1=>k h.1 h.2.1 a0 h1.1 h1.2
theorem xEAAA{p0 p1 p2 p3:α->Prop}{G:Prop}(h:∃ a0:α,p0 a0/\p1 a0/\p2 a0/\p3 a0)(k:∀ a0,p0 a0->p1 a0->p2 a0->p3 a0->G):G:=h.elim λa0 h1=>k a0 h1.1 h1.2.1 h1.2.2.1 h1.2.2.2
theorem wV{p0 p1:α->Prop}{p2:α->β->Prop}{G:Prop}(h:∃ a0:α,p0 a0/\p1 a0/\∃ a1:β,p2 a0 a1)(k:∀ a0,p0 a0->p1 a0->∀ a1,p2 a0 a1->G):G:=h.elim λa0 h1=>h1.2.2.elim λa1 h2=>k a0 h1.1 h1.2.1 a1 h2
theorem aAd{p0:α->Prop}{p1 p2:α->β->Prop}{G:Prop}(h:∃ a0:α,p0 a0/\∃ a1:β,p1 a0 a1/\p2 a0 a1)(k:∀ a0,p0 a0->∀ a1,p1 a0 a1->p2 a0 a1->G):G:=h.elim λa0 h1=>h1.2.elim λa1 h2=>k a0 h1.1 a1 h2.1 h2.2
theorem cC{p0 p1 p2:α->β->Prop}{G:Prop}(h:∃ a0:α,∃ a1:β,p0 a0 a1/\p1 a0 a1/\p2 a0 a1)(k:∀ a0,∀ a1,p0 a0 a1->p1 a0 a1->p2 a0 a1->G):G:=h.elim λa0 h1=>h1.elim λa1 h2=>k a0 a1 h2.1 h2.2.1 h2.2.2
theorem iQ{p0 p1:α->β->γ->Prop}{G:Prop}(h:∃ a0:α,∃ a1:β,∃ a2:γ,p0 a0 a1 a2/\p1 a0 a1 a2)(k:∀ a0,∀ a1,∀ a2,p0 a0 a1 a2->p1 a0 a1 a2->G):G:=h.elim λa0 h1=>h1.elim λa1 h2=>h2.elim λa2 h3=>k a0 a1 a2 h3.1 h3.2
theorem xEEEE{p0:α->β->γ->δ->Prop}{G:Prop}(h:∃ a0:α,∃ a1:β,∃ a2:γ,∃ a3:δ,p0 a0 a1 a2 a3)(k:∀ a0,∀ a1,∀ a2,∀ a3,p0 a0 a1 a2 a3->G):G:=h.elim λa0 h1=>h1.elim λa1 h2=>h2.elim λa2 h3=>h3.elim λa3 h4=>k a0 a1 a2 a3 h4
theorem xAAAEA{p3 p4:α->Prop}{G:Prop}(h:p0/\p1/\p2/\∃ a0:α,p3 a0/\p4 a0)(k:p0->p1->p2->∀ a0,p3 a0->p4 a0->G):G:=h.2.2.2.elim λa0 h1=>k h.1 h.2.1 h.2.2.1 a0 h1.1 h1.2
theorem vD{p2 p3 p4:α->Prop}{G:Prop}(h:p0/\p1/\∃ a0:α,p2 a0/\p3 a0/\p4 a0)(k:p0->p1->∀ a0,p2 a0->p3 a0->p4 a0->G):G:=h.2.2.elim λa0 h1=>k h.1 h.2.1 a0 h1.1 h1.2.1 h1.2.2
theorem j4{p2 p3:α->β->Prop}{G:Prop}(h:p0/\p1/\∃ a0:α,∃ a1:β,p2 a0 a1/\p3 a0 a1)(k:p0->p1->∀ a0,∀ a1,p2 a0 a1->p3 a0 a1->G):G:=h.2.2.elim λa0 h1=>h1.elim λa1 h2=>k h.1 h.2.1 a0 a1 h2.1 h2.2
theorem aAe{p0 p1 p2 p3 p4:α->Prop}{G:Prop}(h:∃ a0:α,p0 a0/\p1 a0/\p2 a0/\p3 a0/\p4 a0)(k:∀ a0,p0 a0->p1 a0->p2 a0->p3 a0->p4 a0->G):G:=h.elim λa0 h1=>k a0 h1.1 h1.2.1 h1.2.2.1 h1.2.2.2.1 h1.2.2.2.2
theorem xEEAAA{p0 p1 p2 p3:α->β->Prop}{G:Prop}(h:∃ a0:α,∃ a1:β,p0 a0 a1/\p1 a0 a1/\p2 a0 a1/\p3 a0 a1)(k:∀ a0,∀ a1,p0 a0 a1->p1 a0 a1->p2 a0 a1->p3 a0 a1->G):G:=h.elim λa0 h1=>h1.elim λa1 h2=>k a0 a1 h2.1 h2.2.1 h2.2.2.1 h2.2.2.2
theorem gV{p0 p1 p2:α->β->γ->Prop}{G:Prop}(h:∃ a0:α,∃ a1:β,∃ a2:γ,p0 a0 a1 a2/\p1 a0 a1 a2/\p2 a0 a1 a2)(k:∀ a0,∀ a1,∀ a2,p0 a0 a1 a2->p1 a0 a1 a2->p2 a0 a1 a2->G):G:=h.elim λa0 h1=>h1.elim λa1 h2=>h2.elim λa2 h3=>k a0 a1 a2 h3.1 h3.2.1 h3.2.2
theorem nR{p0 p1:α->β->γ->δ->Prop}{G:Prop}(h:∃ a0:α,∃ a1:β,∃ a2:γ,∃ a3:δ,p0 a0 a1 a2 a3/\p1 a0 a1 a2 a3)(k:∀ a0,∀ a1,∀ a2,∀ a3,p0 a0 a1 a2 a3->p1 a0 a1 a2 a3->G):G:=h.elim λa0 h1=>h1.elim λa1 h2=>h2.elim λa2 h3=>h3.elim λa3 h4=>k a0 a1 a2 a3 h4.1 h4.2
theorem aFg{p2:α->Prop}{p3 p4:α->β->Prop}{G:Prop}(h:p0/\p1/\∃ a0:α,p2 a0/\∃ a1:β,p3 a0 a1/\p4 a0 a1)(k:p0->p1->∀ a0,p2 a0->∀ a1,p3 a0 a1->p4 a0 a1->G):G:=h.2.2.elim λa0 h1=>h1.2.elim λa1 h2=>k h.1 h.2.1 a0 h1.1 a1 h2.1 h2.2
theorem qZ{p2 p3:α->β->γ->Prop}{G:Prop}(h:p0/\p1/\∃ a0:α,∃ a1:β,∃ a2:γ,p2 a0 a1 a2/\p3 a0 a1 a2)(k:p0->p1->∀ a0,∀ a1,∀ a2,p2 a0 a1 a2->p3 a0 a1 a2->G):G:=h.2.2.elim λa0 h1=>h1.elim λa1 h2=>h2.elim λa2 h3=>k h.1 h.2.1 a0 a1 a2 h3.1 h3.2
theorem qY{p0 p1 p2 p3 p4 p5:α->Prop}{G:Prop}(h:∃ a0:α,p0 a0/\p1 a0/\p2 a0/\p3 a0/\p4 a0/\p5 a0)(k:∀ a0,p0 a0->p1 a0->p2 a0->p3 a0->p4 a0->p5 a0->G):G:=h.elim λa0 h1=>k a0 h1.1 h1.2.1 h1.2.2.1 h1.2.2.2.1 h1.2.2.2.2.1 h1.2.2.2.2.2
theorem cR{p0 p1 p2 p3:α->β->γ->Prop}{G:Prop}(h:∃ a0:α,∃ a1:β,∃ a2:γ,p0 a0 a1 a2/\p1 a0 a1 a2/\p2 a0 a1 a2/\p3 a0 a1 a2)(k:∀ a0,∀ a1,∀ a2,p0 a0 a1 a2->p1 a0 a1 a2->p2 a0 a1 a2->p3 a0 a1 a2->G):G:=h.elim λa0 h1=>h1.elim λa1 h2=>h2.elim λa2 h3=>k a0 a1 a2 h3.1 h3.2.1 h3.2.2.1 h3.2.2.2
theorem m7{p0 p1 p2:α->β->γ->δ->Prop}{G:Prop}(h:∃ a0:α,∃ a1:β,∃ a2:γ,∃ a3:δ,p0 a0 a1 a2 a3/\p1 a0 a1 a2 a3/\p2 a0 a1 a2 a3)(k:∀ a0,∀ a1,∀ a2,∀ a3,p0 a0 a1 a2 a3->p1 a0 a1 a2 a3->p2 a0 a1 a2 a3->G):G:=h.elim λa0 h1=>h1.elim λa1 h2=>h2.elim λa2 h3=>h3.elim λa3 h4=>k a0 a1 a2 a3 h4.1 h4.2.1 h4.2.2
theorem nU{p3 p4 p5 p6:α->Prop}{G:Prop}(h:p0/\p1/\p2/\∃ a0:α,p3 a0/\p4 a0/\p5 a0/\p6 a0)(k:p0->p1->p2->∀ a0,p3 a0->p4 a0->p5 a0->p6 a0->G):G:=h.2.2.2.elim λa0 h1=>k h.1 h.2.1 h.2.2.1 a0 h1.1 h1.2.1 h1.2.2.1 h1.2.2.2
theorem nQ{p0 p1 p2 p3:α->β->γ->δ->Prop}{G:Prop}(h:∃ a0:α,∃ a1:β,∃ a2:γ,∃ a3:δ,p0 a0 a1 a2 a3/\p1 a0 a1 a2 a3/\p2 a0 a1 a2 a3/\p3 a0 a1 a2 a3)(k:∀ a0,∀ a1,∀ a2,∀ a3,p0 a0 a1 a2 a3->p1 a0 a1 a2 a3->p2 a0 a1 a2 a3->p3 a0 a1 a2 a3->G):G:=h.elim λa0 h1=>h1.elim λa1 h2=>h2.elim λa2 h3=>h3.elim λa3 h4=>k a0 a1 a2 a3 h4.1 h4.2.1 h4.2.2.1 h4.2.2.2
theorem kS{p0 p1:α->β->γ->δ->ε->ζ->Prop}{G:Prop}(h:∃ a0:α,∃ a1:β,∃ a2:γ,∃ a3:δ,∃ a4:ε,∃ a5:ζ,p0 a0 a1 a2 a3 a4 a5/\p1 a0 a1 a2 a3 a4 a5)(k:∀ a0,∀ a1,∀ a2,∀ a3,∀ a4,∀ a5,p0 a0 a1 a2 a3 a4 a5->p1 a0 a1 a2 a3 a4 a5->G):G:=h.elim λa0 h1=>h1.elim λa1 h2=>h2.elim λa2 h3=>h3.elim λa3 h4=>h4.elim λa4 h5=>h5.elim λa5 h6=>k a0 a1 a2 a3 a4 a5 h6.1 h6.2
theorem hZ{p2 p3 p4:α->β->γ->δ->ε->Prop}{G:Prop}(h:p0/\p1/\∃ a0:α,∃ a1:β,∃ a2:γ,∃ a3:δ,∃ a4:ε,p2 a0 a1 a2 a3 a4/\p3 a0 a1 a2 a3 a4/\p4 a0 a1 a2 a3 a4)(k:p0->p1->∀ a0,∀ a1,∀ a2,∀ a3,∀ a4,p2 a0 a1 a2 a3 a4->p3 a0 a1 a2 a3 a4->p4 a0 a1 a2 a3 a4->G):G:=h.2.2.elim λa0 h1=>h1.elim λa1 h2=>h2.elim λa2 h3=>h3.elim λa3 h4=>h4.elim λa4 h5=>k h.1 h.2.1 a0 a1 a2 a3 a4 h5.1 h5.2.1 h5.2.2
theorem s8{p0 p1 p2 p3 p4 p5:α->β->γ->δ->ε->Prop}{G:Prop}(h:∃ a0:α,∃ a1:β,∃ a2:γ,∃ a3:δ,∃ a4:ε,p0 a0 a1 a2 a3 a4/\p1 a0 a1 a2 a3 a4/\p2 a0 a1 a2 a3 a4/\p3 a0 a1 a2 a3 a4/\p4 a0 a1 a2 a3 a4/\p5 a0 a1 a2 a3 a4)(k:∀ a0,∀ a1,∀ a2,∀ a3,∀ a4,p0 a0 a1 a2 a3 a4->p1 a0 a1 a2 a3 a4->p2 a0 a1 a2 a3 a4->p3 a0 a1 a2 a3 a4->p4 a0 a1 a2 a3 a4->p5 a0 a1 a2 a3 a4->G):G:=h.elim λa0 h1=>h1.elim λa1 h2=>h2.elim λa2 h3=>h3.elim λa3 h4=>h4.elim λa4 h5=>k a0 a1 a2 a3 a4 h5.1 h5.2.1 h5.2.2.1 h5.2.2.2.1 h5.2.2.2.2.1 h5.2.2.2.2.2
theorem hY{p0 p1 p2 p3 p4 p5 p6 p7:α->β->γ->δ->Prop}{G:Prop}(h:∃ a0:α,∃ a1:β,∃ a2:γ,∃ a3:δ,p0 a0 a1 a2 a3/\p1 a0 a1 a2 a3/\p2 a0 a1 a2 a3/\p3 a0 a1 a2 a3/\p4 a0 a1 a2 a3/\p5 a0 a1 a2 a3/\p6 a0 a1 a2 a3/\p7 a0 a1 a2 a3)(k:∀ a0,∀ a1,∀ a2,∀ a3,p0 a0 a1 a2 a3->p1 a0 a1 a2 a3->p2 a0 a1 a2 a3->p3 a0 a1 a2 a3->p4 a0 a1 a2 a3->p5 a0 a1 a2 a3->p6 a0 a1 a2 a3->p7 a0 a1 a2 a3->G):G:=h.elim λa0 h1=>h1.elim λa1 h2=>h2.elim λa2 h3=>h3.elim λa3 h4=>k a0 a1 a2 a3 h4.1 h4.2.1 h4.2.2.1 h4.2.2.2.1 h4.2.2.2.2.1 h4.2.2.2.2.2.1 h4.2.2.2.2.2.2.1 h4.2.2.2.2.2.2.2
theorem gU{p0:α->β->γ->δ->ε->ζ->η->θ->ι->κ->μ->ν->Prop}{G:Prop}(h:∃ a0:α,∃ a1:β,∃ a2:γ,∃ a3:δ,∃ a4:ε,∃ a5:ζ,∃ a6:η,∃ a7:θ,∃ a8:ι,∃ a9:κ,∃ a10:μ,∃ a11:ν,p0 a0 a1 a2 a3 a4 a5 a6 a7 a8 a9 a10 a11)(k:∀ a0,∀ a1,∀ a2,∀ a3,∀ a4,∀ a5,∀ a6,∀ a7,∀ a8,∀ a9,∀ a10,∀ a11,p0 a0 a1 a2 a3 a4 a5 a6 a7 a8 a9 a10 a11->G):G:=h.elim λa0 h1=>h1.elim λa1 h2=>h2.elim λa2 h3=>h3.elim λa3 h4=>h4.elim λa4 h5=>h5.elim λa5 h6=>h6.elim λa6 h7=>h7.elim λa7 h8=>h8.elim λa8 h9=>h9.elim λa9 h10=>h10.elim λa10 h11=>h11.elim λa11 h12=>k a0 a1 a2 a3 a4 a5 a6 a7 a8 a9 a10 a11 h12
theorem A0:m+(10*n)<=700->m<1000:=Z.R 0x417e8f41f6800057cf692bea00007 [] [m,n]
theorem A1:m+(40*n)<=8000->m+64<9900:=Z.R 0x1049d6cf41f4283da000001fa83da41a3ea00007 [] [m,n]
theorem A2:m<100->m<=16777216:=Z.R 0x1050820820f6800393d07da00007 [] [m]
theorem A3:m<1000000->m<=16777216:=Z.R 0x1050820820f6801ec3283d07da00007 [] [m]
theorem A4:m+n<1000000->p=m->q=n->p+q<=16777216:=Z.R 0x1001001050820820f6ba80029ac11e8a811dec3283d07da68000007 [] [m,n,p,q]
theorem A5:(((0:Int)<=a+((m:Nat):Int))/\(a+((m:Nat):Int)<((m:Nat):Int)))->(a<0)/\((-((m:Nat):Int)<=a)/\((Int.toNat (a+((m:Nat):Int))=Int.toNat (a+((m:Nat):Int)))/\(Int.toNat (a+((m:Nat):Int))<m))):=Z.R 0x40041040040040000001000000040040001000001040000041040000040000001000000040041040a01f68a28128004000a28a04a00128a28128004045a28a2810508503d07da00085a28101f68a04a00002a28128000f42147 [a] [m]
theorem A6:(((0:Int)<=a)/\(a<((m:Nat):Int)))->((0:Int)<=a)/\((Int.toNat a=Int.toNat a)/\(Int.toNat a<m)):=Z.R 0x4004104004004000000100000004004000104000004004000104000004000000100000004006807da28100028a04a2810116803d085a28101f68002a00f42147 [a] [m]
theorem A7:m=n-> -((n:Nat):Int)<=a-> -((m:Nat):Int)<=a:=Z.R 0x1041028a28a04142a28a29105087a68047 [a] [m,n]
theorem A8:m<1000000->¬((16777216:Nat)<m):=Z.R 0x41a2807d42082083d00011ec3283d07da00007 [] [m]
theorem A9: ¬(m-1<n)->n<=m-1:=Z.R 0x4004004104004104004004007da01a40a2907d07da01000107 [] [m,n]
theorem A10:((-1000000):Int)<a->b<1000000->Int.toNat (b-a)<2000000:=Z.R 0x1000001001041f61920f41f68a290440007b0ca0f41f690021e807da1ec3283d140087 [a,b] []
theorem A11:a<1000000->((-1000000):Int)<b->Int.toNat (b-a)<2000000->((((((-9223372036854775808):Int)<=a)/\(a<9223372036854775808))/\((((-9223372036854775808):Int)<=b)/\(b<9223372036854775808)))/\((((-9223372036854775808):Int)<=max (b-a) 0)/\(max (b-a) 0<9223372036854775808)))/\((max (b-a) 0=0)\/((((-9223372036854775808):Int)<=b)/\(b<9223372036854775808))):=Z.R 0x40000000001000000000040000000001000000000041000000001040000000040001000001000040001000000001000040001000000001040000001001001040001001000001040041000040000000001000000000040000000001000000000040001000001000040001000040001040000001001000000001001000001000000001000040001040001040001001000001041001008820820820820820820f41f69002a6822082082082082082083d142140f40f68a41083188820820820820820820f41f40f68a41080080f68a410a822082082082082082083d142148820820820820820820f41f69002a6822082082082082082083d142148820820820820820820f41f68002a2822082082082082082083d14214514507d86483d07da28a41100007a41f687b0ca0f450021dec3283d07da00087 [a,b] []
theorem A12:m<1000000->n=m->n<=16777216:=Z.R 0x1001050820820f69028a411dec3283d07da00007 [] [m,n]
theorem A14: ¬(((m:Nat):Int)<0):=Z.R 0x6803d07da28100084 [] [m]
theorem A28:m<50->n+(40*p)<=8000->n+1+(min q m)<9900:=Z.R 0x1041041001049d6cf41f68ac307da40000007ea0f6a068fa90001c1cbd07da00007 [] [m,n,p,q]
theorem A29:m<1000000->n<=m->n<=16777216:=Z.R 0x41050820820f69028a401dec3283d07da00007 [] [m,n]
theorem A30:m+(10*(n+1))<=700->m+1+(10*n)<=700:=Z.R 0x1055f3da4af81f68000015f3d07da402bea00007 [] [m,n]
theorem A31:m+(40*(n+1))<=8000->m+3+(40*n)<=8000:=Z.R 0x1047ea0f69068f83f68000007ea0f41f69001a3ea00007 [] [m,n]
theorem A32:m+1<=n->m<=n:=Z.R 0x41a6802907da00007 [] [m,n]
theorem A33:m=n->n<1000000->m<=16777216:=Z.R 0x1040050820820f6801ec3283d07da40007a68047 [] [m,n]
theorem A34:m+(10*(n+1))<=700->m+0+1+(10*n)<=700:=Z.R 0x4157cf692be07d03da00000015f3d07da402bea00007 [] [m,n]
theorem A35:m+(40*(n+1))<=8000->m+0+3+(40*n)<=8000:=Z.R 0x411fa83da41a3e0fd03da00000007ea0f41f69001a3ea00007 [] [m,n]
theorem A36:m+(10*(n+1))<=700->m+(1+0)+0+(10*n)<=700:=Z.R 0x1055f3da4af80f40f41f40a00000015f3d07da402bea00007 [] [m,n]
theorem A37:m+(40*(n+1))<=8000->m+(3+0)+0+(40*n)<=8000:=Z.R 0x1047ea0f69068f80f40f43f40a00000007ea0f41f69001a3ea00007 [] [m,n]
theorem A38:m+(10*(n+2))<=700->m+(10*(n+1))<=700:=Z.R 0x1055f3d07da402bea00015f3d0bda402bea00007 [] [m,n]
theorem A39:m+(40*(n+2))<=8000->m+1+(40*(n+1))<=8000:=Z.R 0x411fa83d07da40068f81f68000007ea0f42f69001a3ea00007 [] [m,n]
theorem A40:m+2<=n->p+(10*n)<=700->p+(10*(m+2))<=700:=Z.R 0x41295f3d0bda002bea80015f3da4afaa0001e90bda00007 [] [m,n,p]
theorem A41:m+2<=n->p+(40*n)<=8000->p+(40*(m+2))<=8000:=Z.R 0x41a07ea0f42f68001a3ea80007ea0f69068faa0001e90bda00007 [] [m,n,p]
theorem A42:m+(10*(n+1))<=700->m+(10*n)<=700:=Z.R 0x4157cf692bea00015f3d07da402bea00007 [] [m,n]
theorem A43:m+(40*(n+1))<=8000->m+1+1+(40*n)<=8000:=Z.R 0x411fa83da41a3e07d07da00000007ea0f41f69001a3ea00007 [] [m,n]
theorem A44:m+(40*(n+1))<=8000->m+1+(40*n)<=8000:=Z.R 0x1047ea0f69068f81f68000007ea0f41f69001a3ea00007 [] [m,n]
theorem A45:((m:Nat):Int)<a->¬(a<=((m:Nat):Int)):=Z.R 0x41a28a04a0212807da28100087 [a] [m]
theorem A46:m+1<=n->p+(10*n)<=700->p+(10*m)<=700:=Z.R 0x104a57cf682bea80015f3da4afaa0001e907da00007 [] [m,n,p]
theorem A47:m+1<=n->p+(40*n)<=8000->p+1+(40*m)<=8000:=Z.R 0x41a07ea0f68068f81f6a000007ea0f69068faa0001e907da00007 [] [m,n,p]
theorem A48:m=n->n<64->m<=16777216:=Z.R 0x1040050820820f6800283d07da40007a68047 [] [m,n]
theorem A49:m<64->n=p->p=m->n<=16777216:=Z.R 0x1001001050820820f69028a811eaa411c283d07da00007 [] [m,n,p]
theorem A51: ¬(m<2)->(2:Nat)<=m:=Z.R 0x41a02f40a02f41f68000107 [] [m]
theorem A52:a<b->b<c->a<c:=Z.R 0x1041a81f68002a81f690021e907da00087 [a,b,c] []
theorem A53:m<n->n<p->m<p:=Z.R 0x1041a81f68000a81f690001e907da00007 [] [m,n,p]
theorem A57:(2:Nat)<=m->m=n->(1:Nat)<=n:=Z.R 0x100106907d029a011e80bd007 [] [m,n]
theorem A59:m+(40*(n+1))<=8000->m+1<9900:=Z.R 0x1049d6cf41f41f68000007ea0f41f69001a3ea00007 [] [m,n]
theorem A60:m<=n->p+(10*n)<=700->p+(10*m)<=700:=Z.R 0x41295f3da0afaa00057cf692bea80007a68007 [] [m,n,p]
theorem A61:m<=n->p+(40*n)<=8000->p+(40*m)<=8000:=Z.R 0x41a07ea0f68068faa0001fa83da41a3ea80007a68007 [] [m,n,p]
theorem A62: ¬(m<=63)->(63:Int)<((m:Nat):Int):=Z.R 0x41a28101f41ffd002a01ffda00107 [] [m]
theorem A63:m<n+1->n<=m->m=n:=Z.R 0x1040040069a01a2900707da4007da00007 [] [m,n]
theorem A64:m<n-1->n-1<n:=Z.R 0x100100000100004100002907d07da4100007da4107da00007 [] [m,n]
theorem A65:m<n->n-1<=m->m=n-1:=Z.R 0x4000000104000104000100100000104000000104000104004000100000107da41a01a01f690401e907da00007 [] [m,n]
theorem A66:m+(n+1)<=p->m<p:=Z.R 0x106a07da0002a07da40a00007 [] [m,n,p]
theorem A67:m+(n+1)<=p->m-1<p:=Z.R 0x40041001a81f41f6804002a07da40a00007 [] [m,n,p]
theorem A68:(1:Nat)<=m->m=m-1->fh:=Z.R 0x4004004002807da01a011e807d007 [] [m]
theorem A69:m<=m+(n+1):=Z.R 0x107da40a00a00 [] [m,n]
theorem A70:(1:Nat)<=m+1:=Z.R 0x41f68001f40 [] [m]
theorem A71:m+(n+1)<=p->m+1+n<=p:=Z.R 0x106aa41f6800002a07da40a00007 [] [m,n,p]
theorem A72:(1:Nat)<=m->¬(m=m-1):=Z.R 0x4004004002807da01a0112807d007 [] [m]
theorem A73:m<=n+1+p->m<=n+(p+1):=Z.R 0x1041f6a02902802a07da40028007 [] [m,n,p]
theorem A74:m<n+(p+1)->m<n+1+p:=Z.R 0x106a07da40001f6800007da80a4007da00007 [] [m,n,p]
theorem A75: ¬((0:Nat)<0):=Z.R 0x1a00f41f40f40004 [] []
theorem A76:(1:Nat)<=m->m-1=m->fh:=Z.R 0x1000041000028a01f680411e807d007 [] [m]
theorem A77:0+m-1-n=m-1-n:=Z.R 0x40000001000000040000001040000040000001000000040000041040000040001001000000040000001000000040001001000000040000041001000040000001000000040000001040000040000001000000040001001040000040001001001000040000041001000040001001040000040000001000000a41f68041a41f6803d001041 [] [m,n]
theorem A78:m<n->n<p->p-1-n<p-1-m:=Z.R 0x40001040001000041001000001041000000041040000000041000000001040000000040000040001000040001040001000041001000001041000000041040040000041001000001041000000041000000001a01f6a04107da41f6a041000a81f690001e907da00007 [] [m,n,p]
theorem A79:m<n->n-1-p<n:=Z.R 0x40001040001040040040000a41f6a07da4104002907da00007 [] [m,n,p]
theorem A80:(1:Nat)<=m->1+(m-1)<=m:=Z.R 0x40041000a01f68041f4002807d007 [] [m]
theorem A81:m<n->n<1->fh:=Z.R 0x41a01f41f690001e907da00007 [] [m,n]
theorem A82:(1:Nat)<=m->n<=1+(m-1)->n<=m:=Z.R 0x41001041000a29001f68041f40a401e807d007 [] [m,n]
theorem A83:m<=1+(n-1)->(1:Nat)<m->(0:Nat)<n:=Z.R 0x4100100006907d03d000a01f41f4000707da4107d028007 [] [m,n]
theorem A84:m<=1+(n-1)->(1:Nat)<m->m-1<n:=Z.R 0x4100000004100100000104000102907d07da01000a01f41f4000707da4107d028007 [] [m,n]
theorem A85:(1:Nat)<m->(0:Nat)=m-1->fh:=Z.R 0x104100006807da0103d047a01f41f40007 [] [m]
theorem A86:(1:Nat)<m->(0:Nat)<m-1:=Z.R 0x104100107da0107d03d000a01f41f40007 [] [m]
theorem A87:(1:Nat)<m->m-1<m:=Z.R 0x4104002807d07da01000a01f41f40007 [] [m]
theorem A88:m<=1+(n-1)->(1:Nat)<m->m<=n:=Z.R 0x41001001029a00a01f41f4000707da4107d028007 [] [m,n]
theorem A89:(1:Nat)<=m->¬((1:Nat)<m)->m=1:=Z.R 0x1001041001f68068a01f41f400041e807d007 [] [m]
theorem A90:m<n->n<2->n=1:=Z.R 0x1001041001f69042f41f690001e907da00007 [] [m,n]
theorem A91:m<1->m=0:=Z.R 0x4004103da0107d07da00007 [] [m]
theorem A92:(1:Nat)<=m->¬((1:Nat)=m)->(1:Nat)<1+(m-1):=Z.R 0x41001001000001040001041f68041f4007d07d000a2807d0441e807d007 [] [m]
theorem A93:(1:Nat)<=2:=Z.R 0x42f41f40 [] []
theorem A94:(1:Nat)<=m->¬((1:Nat)=m)->2+(m-(1+1))<=m:=Z.R 0x40040040000000041040000a01f41f40a010bd000a2807d0441e807d007 [] [m]
theorem A95:m=0->¬((0:Nat)<m):=Z.R 0x1001a2807d03d000100f68047 [] [m]
theorem A96:(1:Nat)<=m->¬((1:Nat)=m)->n<=2+(m-(1+1))->n<=m:=Z.R 0x41001001040000000001041040000a29001f41f40a010bd029007a2807d0441e807d007 [] [m,n]
theorem A97:(2:Nat)<=m->(1:Nat)<=m:=Z.R 0x106807d0280bd007 [] [m]
theorem A98:m<=n->m+(n-m)<=n:=Z.R 0x1001040029a29068000a68007 [] [m,n]
theorem A99:(2:Nat)<=m->m<=n->(1:Nat)<=n:=Z.R 0x4106907d029a001e80bd007 [] [m,n]
theorem A100:m<=n->p<=m+(n-m)->p<=n:=Z.R 0x1040041040029a80a2906802a007a68007 [] [m,n,p]
theorem A101:m<=n->n<=p->m<=p:=Z.R 0x4106aa00aa9007a68007 [] [m,n,p]
theorem A102:m-n<=0->n<=p->m<=p:=Z.R 0x41001041040aa802aa401c0f69a01007 [] [m,n,p]
theorem A103:m-n<=m:=Z.R 0x1001028a68040 [] [m,n]
theorem A104:m<=n->n-(n-m)=m:=Z.R 0x1040041000001000041001001040001000001000001000028a29069041a68007 [] [m,n]
theorem A105:m+0=n->m=n:=Z.R 0x41001001a6806903da00047 [] [m,n]
theorem A106:m+(n+1)=p->m<p:=Z.R 0x4006a07da0002a07da40a00047 [] [m,n,p]
theorem A107:m-0<=m:=Z.R 0x40040a00f68040 [] [m]
theorem A108:m<n->¬(n<=m):=Z.R 0x41a28a4012907da00007 [] [m,n]
theorem A109:m+(n+1)=p->m+1+n=p:=Z.R 0x104004006aa41f6800006a07da40a00047 [] [m,n,p]
theorem A110:m<n->m=p->¬(n=p):=Z.R 0x41001a2aa4112aa011e907da00007 [] [m,n,p]
theorem A111:m<n->n<p+1->m=q->(q<n)/\(n<=p):=Z.R 0x100004004100006aa40a41f6b00016ba011c1f6a001f690001e907da00007 [] [m,n,p,q]
theorem A112:m<n->m=p->p<=n-1:=Z.R 0x1041001040040041f6906a02aa011e907da00007 [] [m,n,p]
theorem A113:m<n->n<p+1->n-1<p:=Z.R 0x40041040040a81f41f69040001f6a001f690001e907da00007 [] [m,n,p]
theorem A114:m<n->((p<m)/\(m<=q))->¬(n=p):=Z.R 0x1001068aa9044ae802807da800051e907da00007 [] [m,n,p,q]
theorem A115:m<n->n<p+1->((q<m)/\(m<=p))->(q<n)/\(n<=p):=Z.R 0x40001001001001aa902907dac0005aa802807dac00051c1f6a001f690001e907da00007 [] [m,n,p,q]
theorem A116:m<n->((p<m)/\(m<=q))->m-1<n-1:=Z.R 0x100004104000004104100000104000000107da4107d07da01000ae802807da800051e907da00007 [] [m,n,p,q]
theorem A117:m<n+1->((p<q)/\(q<=n))->m-1<n:=Z.R 0x40041001000001a41f41f68040029ac0ac1f6a00014707da4007da00007 [] [m,n,p,q]
theorem A118:m<n->n=p->m<p:=Z.R 0x100106a07da0002aa411e907da00007 [] [m,n,p]
theorem A119:m<n->¬(m=p)->(¬((p<m)/\(m<=q)))->((p<n)/\(n<=q))->m<p:=Z.R 0x4004004100000100004004004000004102a07da0002ba40a41f6a000147a2ba00a01f6a0001441e8aa80441e907da00007 [] [m,n,p,q]
theorem A120:((m<n)/\(n<=p))->q<m->q<n-1:=Z.R 0x41001040040041f69041f6b000a01f6b0001eaa40a41f68000147 [] [m,n,p,q]
theorem A121:((m<n)/\(n<=p))->n-1<p:=Z.R 0x40041040040a81f41f6904002aa40a41f68000147 [] [m,n,p]
theorem A122:m<=n->p<n+1->¬(p=m)->(¬((m<p)/\(p<=n)))->p<n:=Z.R 0x4004004004004004004000104002907da80028a6a02a07da00005107a28a8110707da4007da80007a68007 [] [m,n,p]
theorem A123:(1:Nat)<=m->max m 1=m:=Z.R 0x104004004100004002807da0206807d007 [] [m]
theorem A124:m<n->m+(n-m)=n:=Z.R 0x1040041040001000a68a41a0006907da00007 [] [m,n]
theorem A125:m<=n->¬(m<n)->m=n:=Z.R 0x41001001a68068a41f68000107a68007 [] [m,n]
theorem A126:a<b->b<a->fh:=Z.R 0x1068a01f690021e907da00087 [a,b] []
theorem A127: ¬(a<b)->¬(b=a)->b<a:=Z.R 0x104000106807da400a8a290c41e8a41f68002107 [a,b] []
theorem A128:a<=b+1->a<=b-0+1:=Z.R 0x4107d03da41028081f69028087 [a,b] []
theorem A129:a-(b+1)=a-1-b:=Z.R 0x106907da01041f69028043 [a,b] []
theorem A130:a=b->c-1-b+1+a=c:=Z.R 0x104004006aa01f6907da81040003a680c7 [a,b,c] []
theorem A131:a-1-b+1+c=a->d-1-b+1+c=d:=Z.R 0x104004006ba81f6907dac1040003a2a07da41f680410000c7 [a,b,c,d] []
theorem A132:a<b+1->¬(a=b)->a<b:=Z.R 0x41000041a41f68002a29a0310707da4007da00087 [a,b] []
theorem A133:a<b->(0:Int)<=b-1-a:=Z.R 0x41a01f6904103d0a907da00087 [a,b] []
theorem A134:(0:Int)<=a->b-1-a<b:=Z.R 0x41a41f6807da410400a803d087 [a,b] []
theorem A135:a+b=c+1->a+(b-1-d)=c-d:=Z.R 0x104004006ba81ac1f69041a000c1f6a029a000c7 [a,b,c,d] []
theorem A136:a<b->c+(b-1-a)=d-a->e<=c->e<=d-a:=Z.R 0x41001068ac1b02aac087a2b06807da4106a0031e907da00087 [a,b,c,d,e] []
theorem A137:a<=b->a+0<=b:=Z.R 0x41a40f68002a68087 [a,b] []
theorem A138:(0:Int)<a->(0:Int)<=a-1:=Z.R 0x1041f68040f42a01f40f40087 [a] []
theorem A139:a-1<a:=Z.R 0x6807d07da01002 [a] []
theorem A140:((a+b<=c)\/((a+b=c+1)/\(d+b<=e)))->(¬((a+b<=c)\/((a+b=c+1)/\(d+b<=f))))->a+(b-1)=c:=Z.R 0x40040000040000001040040000001040000040040000001000001000041000041000041000041000041000041a81f69068003a2da6b00207da80a6800316aa680021841eca6b00207da80a6800316aa68002187 [a,b,c,d,e,f] []
theorem A141:(¬((a+b<=c)\/((a+b=c+1)/\(d+b<=e))))->a+(b-1)=c->e<=d+(b-1):=Z.R 0x100004000100100000104007da41ac0b02a81f690680031e8b29ac0081f6a029a000c5aa9a00086107 [a,b,c,d,e] []
theorem A142:((a+b<=c)\/((a+b=c+1)/\(d+b<=e)))->a+(b-1)=c->d+(b-1)<e:=Z.R 0x100004000004006c07d07da41ac0002a81f690680031eca6b00207da80a6800316aa68002187 [a,b,c,d,e] []
theorem A143:(0:Int)<a->b<=c->b<=c+(a-1):=Z.R 0x104107da01a80a42aa9087a01f40f40087 [a,b,c] []
theorem A144:a+b<=c->a+(b-1)<c:=Z.R 0x106a07d07da41a00002aa9a00087 [a,b,c] []
theorem A145:a<b->a-c+1+c<=b:=Z.R 0x1069a81f6aa010000a907da00087 [a,b,c] []
theorem A146:(0:Int)<a->a=0->fh:=Z.R 0x41a00f680c7a01f40f40087 [a] []
theorem A147:a-b+1+b=a+1:=Z.R 0x1041f6802907da68040003 [a,b] []
theorem A148:a-b+1+b<=a+1:=Z.R 0x41f6802907da68040002 [a,b] []
theorem A149:((a+b=c+1)/\(d+b=e+1))->b=f->c-f+1=a:=Z.R 0x41000000041001000040a01f6da81003b690c707db00a6b00307da80a68003147 [a,b,c,d,e,f] []
theorem A150:((a+b=c+1)/\(d+b=e+1))->b=f->e-f+1<=d:=Z.R 0x1001040000ac1f6db01002b690c707db00a6b00307da80a68003147 [a,b,c,d,e,f] []
theorem A151:((a+b=c+1)/\(d+b<=e))->d+b<=e+1:=Z.R 0x1040001f6c029ac00aca6b00207da80a68003147 [a,b,c,d,e] []
theorem A152:((a+b=c+1)/\(d+b=e+1))->b=f->g+f<=c->g<a:=Z.R 0x41001000040a01f6e002aadb80087b690c707db00a6b00307da80a68003147 [a,b,c,d,e,f,g] []
theorem A153:((a+b=c+1)/\(d+b=e+1))->b=f->((g+f=c+1)/\(h+f<=e))->g=a:=Z.R 0x40040040000001040001001000040a2e0ecb6f00207da80b6e003147b690c707db00a6b00307da80a68003147 [a,b,c,d,e,f,g,h] []
theorem A154:((a+b=c+1)/\(d+b=e+1))->b=f->((g+f=c+1)/\(h+f<=e))->h<=d:=Z.R 0x41000001040000aef0acb6f00207da80b6e003147b690c707db00a6b00307da80a68003147 [a,b,c,d,e,f,g,h] []
theorem A155:a<=b->((c<=d)/\((d<a)/\((e<=f)/\(g=h))))->d<b:=Z.R 0x4000004006907dac00afb83b6c085a01f6b00216ba82147a68087 [a,b,c,d,e,f,g,h] []
theorem A156:a<a+1:=Z.R 0x41f68001f68002 [a] []
theorem A157:((a<=b)/\((b<c)/\((d<=e)/\(f=g))))->b<c+1:=Z.R 0x4000004007da8007da400aeb43b2b085a81f69002169a02147 [a,b,c,d,e,f,g] []
theorem A158: ¬(a=b)->((c<=a)/\((a<b+1)/\((d<=e)/\(f=g))))->a<b:=Z.R 0x40000000040000001001a41f68002bad0ecac2141f69001f68002168a82147a29a03107 [a,b,c,d,e,f,g] []
theorem A159:a<=b->a<=b-1+1:=Z.R 0x1041f41f69040a02a68087 [a,b] []
theorem A160:a<b->a-1<b:=Z.R 0x41a41f41f680400a907da00087 [a,b] []
theorem A161:((a<b)\/(c<=d))->¬((d<=e)/\((e<c)/\((b<=a)/\(f=g)))):=Z.R 0x41040001000068bad0e8a4216a07db00085b2b08512ba82a41f68002187 [a,b,c,d,e,f,g] []
theorem A162:a+((0:Nat):Int)=b->a=b:=Z.R 0x41001001a680e9a00f44a000c7 [a,b] []
theorem A163:a+((m+1:Nat):Int)=b->a<b:=Z.R 0x4006907da000a9a01f68004a000c7 [a,b] [m]
theorem A164:a+((m+1:Nat):Int)=b->a+1+((m:Nat):Int)=b:=Z.R 0x1040040069a28101f680000e9a01f68004a000c7 [a,b] [m]
theorem A165:(0:Int)<=a->((-1000000):Int)<a:=Z.R 0x106807da1ec3283d1400a803d087 [a] []
theorem A166:a<((m:Nat):Int)->m<1000000->a<1000000:=Z.R 0x10417b0ca0f41f680027b0ca0f41f680001e8a0407da00087 [a] [m]
theorem A167:a<=b->b+1+((m:Nat):Int)<=((n:Nat):Int)->a+((m+1:Nat):Int)<=((n:Nat):Int):=Z.R 0x41068a44a01f68004a000a8a44a28101f69000087a68087 [a,b] [m,n]
theorem A168:a<=b->a+((Int.toNat (b-a):Nat):Int)=b:=Z.R 0x1040040041000040029a28a29044128003a68087 [a,b] []
theorem A169:a<b->a<=b-1:=Z.R 0x1041f690680a907da00087 [a,b] []
theorem A170:a+b<=c->a-1+(b+1)<=c:=Z.R 0x106a07da4007da01002aa9a00087 [a,b,c] []
theorem A171:(0:Int)<=a->(0:Int)<=a+1:=Z.R 0x4107da0003d0a803d087 [a] []
theorem A172:(0:Int)<=a->(0:Int)<a+1:=Z.R 0x1041f68001f40f400a803d087 [a] []
theorem A173:(0:Int)<=a->¬(a=0)->(0:Int)<=a-1:=Z.R 0x41041001f68040f42a00f680c41e803d087 [a] []
theorem A174:a<b+1->a-1<b:=Z.R 0x106907d07da0100207da4007da00087 [a,b] []
theorem A175:a-1+b=a+(b-1):=Z.R 0x1041f6906802907da01003 [a,b] []
theorem A176:a<=b->a<=b:=Z.R 0x1069a02a68087 [a,b] []
theorem A177:a+b<c->a+(b+1)<=c:=Z.R 0x106a07da40a000aa07da68000087 [a,b,c] []
theorem A178:(0:Int)<=a->a<b->(0:Int)<=b-1:=Z.R 0x41041f69040f42a41f680021e803d087 [a,b] []
theorem A179:a+b<=c->(0:Int)<=b->c<=((m:Nat):Int)->a-1<((m:Nat):Int):=Z.R 0x41041a28101f41f680400a8a04a821e903d087aa9a00087 [a,b,c] [m]
theorem A180:a<=b->(0:Int)<=c->(0:Int)<=a->(0:Int)<=b+c:=Z.R 0x41041aa9000f42a00f421ea03d087a68087 [a,b,c] []
theorem A181:a<=((m:Nat):Int)->b+c<a->b+c<((m:Nat):Int):=Z.R 0x41068a0407daa90000a807daa9000087a28128087 [a,b,c] [m]
theorem A182:m<200->¬((200:Int)<=((m:Nat):Int)):=Z.R 0x41a28a041a8f42106a3d07da00007 [] [m]
theorem A183:(0:Int)<a->b<=c->c+a<=d->m<=2*(Int.toNat (c-b))+1+n->p<=2*(Int.toNat (d-(c+a)))+1+m->q=2*(Int.toNat (d-b))+1+n->p+1<=q:=Z.R 0x400000010410410000400400820800000400000010410410000400400020800000400000410010410000400400800800000400000410010410000400400000ab07da8002907da29ac1102f8002b047a01f68a2a02b0440be000a801e907da29a81102f80028007ae8a80087aa9087a01f40f40087 [a,b,c,d] [m,n,p,q]
theorem A184:m+n<=1000->p<=n->p<1000000:=Z.R 0x10417b0ca0f41f6a000a6a0077e8f69a00007 [] [m,n,p]
theorem A185:m<=n->(1:Nat)<=p->m=p+q->q<n:=Z.R 0x4100106907dac002ba80a011ea07d007a68007 [] [m,n,p,q]
theorem A186:m+n<=1000->n=p+q->m+q<=1000:=Z.R 0x104005fa3dae8000aea0290477e8f69a00007 [] [m,n,p,q]
theorem A187: ¬(a=0)->(0:Int)<=a->(0:Int)<a:=Z.R 0x4104006807d03d002a00f421e803da03107 [a] []
theorem A188:m+n<=1000->m<1000000:=Z.R 0x417b0ca0f41f680007e8f69a00007 [] [m,n]
theorem A189:m+n<=1000->p+1<=n->m+1+p<=1000:=Z.R 0x4105fa3da81f6800002907da800077e8f69a00007 [] [m,n,p]
theorem A190:m+(n+1)<=1000->m+n<=1000:=Z.R 0x417e8f69a0001fa3d07da40a00007 [] [m,n]
theorem A191:m+(n+1)<=1000->m<1000000:=Z.R 0x105ec3283d07da0001fa3d07da40a00007 [] [m,n]
theorem A192:m+(n+1)<=1000->m+1+n<=1000:=Z.R 0x105fa3da41f6800001fa3d07da40a00007 [] [m,n]
theorem A193:m+0<=1000->m<999999:=Z.R 0x105ec31ffd07da0001fa3d03da00007 [] [m]
theorem A194:m+n<=1000->p<=1->q=m+p->q+1<1000000:=Z.R 0x10010417b0ca0f41f41f6b00002aa00ac11c1f6a0077e8f69a00007 [] [m,n,p,q]
theorem A197:m+(2*(n+1))<=100000->m<999999:=Z.R 0x105ec31ffd07da0000387583d07da400bea00007 [] [m,n]
theorem A198:m+(2*(n+1))<=100000->p<=1->q<=1->m+(p+q)+(2*n)<=100000:=Z.R 0x410410e1d60f690beaea028000001f6b00707da801c387583d07da400bea00007 [] [m,n,p,q]
theorem A199:m<=2*n->p<=1->q<=1->p+(q+m)<=2*(n+1):=Z.R 0x4104107da400bea2b02a00007dac01c1f6a007a42fa8007 [] [m,n,p,q]
theorem A200:m<=1000->0+(2*m)<=100000:=Z.R 0x420e1d60f680be03d0007e8f68007 [] [m]
theorem A201:a<=b->b+c+((m:Nat):Int)<=((n:Nat):Int)->(0:Int)<c->a+((m+1:Nat):Int)<=((n:Nat):Int):=Z.R 0x41041a2912807da00128002a81f40f40087a29128a04aa9000087a68087 [a,b,c] [m,n]
theorem A202:0+((m:Nat):Int)<=((n:Nat):Int)->m<=n:=Z.R 0x41a68028a44a28100f40087 [] [m,n]
theorem A203:a+(b-a)=b:=Z.R 0x1069a29068003 [a,b] []
theorem A204: ¬(((m+1+1:Nat):Int)=1):=Z.R 0x1a01f6807d07da000040c4 [] [m]
theorem A205:m+0<=1000->m<1000000:=Z.R 0x105ec3283d07da0001fa3d03da00007 [] [m]
theorem A206:m<=900->1+(m-n)<=1000:=Z.R 0x400010017e8f69a0107d000724f68007 [] [m,n]
theorem A211:(-1)+((m+1:Nat):Int)=((m:Nat):Int):=Z.R 0x1068a04a01f68004a01f45003 [] [m]
theorem A212:((m:Nat):Int)<((m+1:Nat):Int):=Z.R 0x6807da00101f68a04002 [] [m]
theorem A213:(0:Int)<((m+1:Nat):Int):=Z.R 0x1a01f6800407d03d002 [] [m]
theorem A215:(0:Int)<=a->¬(a+a<min b (c+a)-c):=Z.R 0x1041040068aa8a80a43041f68a0000212803d087 [a,b,c] []
theorem A219:(0:Int)<=a->¬(a+a<b-(max c (b-a))):=Z.R 0x1001041068a2906a0a9041f68a0000212803d087 [a,b,c] []
theorem A248:m+(n+p)<1000000->m+n<1000000:=Z.R 0x105ec3283d07da6800001ec3283d07daa9028000007 [] [m,n,p]
theorem A249:m+(n+p)<1000000->m+n+p<1000000:=Z.R 0x105ec3283d07daa9a0000001ec3283d07daa9028000007 [] [m,n,p]
theorem A258:m<100000->m<1000000:=Z.R 0x105ec3283d07da0000387583d07da00007 [] [m]
theorem A263:m<1000000->((m:Nat):Int)<1000000:=Z.R 0x105ec3283d07da2810009ec3283d07da00007 [] [m]
theorem A264:((-1000000):Int)<((m:Nat):Int):=Z.R 0x1a28101f687b0ca0f45002 [] [m]
theorem A265:m<100000->n<m->((n:Nat):Int)<1000000:=Z.R 0x10417b0ca0f41f68a44002a01f690001c387583d07da00007 [] [m,n]
theorem A266:m<n->((m:Nat):Int)<((n:Nat):Int):=Z.R 0x1068a4407da281000a907da00007 [] [m,n]
theorem A309:m<64->n<=p+1->p<=m->q<=2*(n+1)->q<=200:=Z.R 0x10420821a8f6b001f69002fab007a2a00707da80a401c283d07da00007 [] [m,n,p,q]
theorem A310:m<=200->m<1000000:=Z.R 0x417b0ca0f41f680001a8f68007 [] [m]
theorem A311:m<=201->0+m<=1000:=Z.R 0x417e8f6803d0001a9f68007 [] [m]
theorem AF0:(-(1000000:Int))<a->b<(1000000:Int)->(Int.toNat (a-b))<(2000000:Nat)->(((((-(9223372036854775808:Int))<=a)/\(a<(9223372036854775808:Int)))/\(((-(9223372036854775808:Int))<=b)/\(b<(9223372036854775808:Int))))/\(((-(9223372036854775808:Int))<=(max (a-b) (0:Int)))/\((max (a-b) (0:Int))<(9223372036854775808:Int))))/\(((max (a-b) (0:Int))=(0:Int))\/(((-(9223372036854775808:Int))<=b)/\(b<(9223372036854775808:Int)))):=Z.R 0x40000000001000000000040000000001000000000041000000001040000000040001000001000040001000000001000040001000000001000001041000040040040041001040040000040040000000001000000000040000000001000000000040001000001000040001000000040040001000041000000001001000001000000001000001041000040041000041040040040000048820820820820820820f41f69002a6822082082082082082083d142140f40f69a01083188820820820820820820f41f40f69a01080080f69a010a822082082082082082083d142148820820820820820820f41f69002a6822082082082082082083d142148820820820820820820f41f68002a2822082082082082082083d14214514507d86483d07da29a011000077b0ca0f41f690021e807da1ec3283d140087 [a,b] []
theorem AF1:a<(1000000:Int)->(-(1000000:Int))<b->(Int.toNat (a-b))<(2000000:Nat):=Z.R 0x1000001001041f61920f41f68a68044000a41f687b0ca0f450021dec3283d07da00087 [a,b] []
theorem Yc0:m<10000->n=p->p+(q+1)=m->n<1000000:=Z.R 0x100100105ec3283d07da4002807dac0a80047aa9047278c3d07da00007 [] [m,n,p,q]
theorem Yc1:0<a->m<=b/\n<=c->0<=d/\0<=e/\d+f<=m/\e+f<=n/\0<f->b+a<=d->fh:=Z.R 0x41001000001068ae8a40087b41f40f400a8a44b6c002168a04b6b00216c03d085ac0f42147aa8a440a9a28102147a01f40f40087 [a,b,c,d,e,f] [m,n]
theorem Yc2:a<b\/a=b/\(c<d-m\/c=d-m/\e<=f-n)->a<b\/a=b/\(c+m<d\/c+m=d/\e+n<=f):=Z.R 0x100004000000100000100000100000004000100000004004000000004004004000004004000004004000100004004000004000104000104000104004100106da2912c002ae8a04a800c5ac1f68a04a800021a9a0316907da00086a2912d06c0a8a04ac1a83168a04ac107da80086a680c5a41f68002187 [a,b,c,d,e,f] [m,n]
theorem Yc3:a+b<=c+m->a-m+b<=c:=Z.R 0x106aa68a04a01002a2812a029a00087 [a,b,c] [m]
theorem Yc4:a<=b->c<=d->a=e+m/\c=f+n->e<=b-m/\f<=d-n:=Z.R 0x1040000040040001000068a44ac1b42a2812906c085a2912d02a0e8a04b00a03147aea087a68087 [a,b,c,d,e,f] [m,n]
theorem Yc5:m<=a/\n<=b->0<=b-n:=Z.R 0x1040a29129040f42a68a440a8a28102147 [a,b] [m,n]
theorem Yc6:m<=a/\n<=b->0<=a-m:=Z.R 0x1001a28128040f42a68a440a8a28102147 [a,b] [m,n]
theorem Yc7:0<a->b+a<=m/\c+a<=n->0<=d/\0<=e/\d+f<=p/\e+f<=q/\0<f->d+m+f<=b->fh:=Z.R 0x41000001001068a6da2812b000087b41f40f400a8ac4b6c002168a84b6b00216c03d085ac0f42147a29128a800a8a04a29002147a01f40f40087 [a,b,c,d,e,f] [m,n,p,q]
theorem Yc8:a+b<=m+n->a+b<=n+m:=Z.R 0x1068a04a29100a68002a29128a04029a00087 [a,b] [m,n]
theorem Yc9:0<=a/\0<=b/\a+c<=m/\b+c<=n/\0<c->0<=b:=Z.R 0x40000040a40f42a81f40f400a8a44aa9002168a04aa800216903d085a00f42147 [a,b,c] [m,n]
theorem Yc10:0<=a/\0<=b/\a+c<=m/\b+c<=n/\0<c->0<=a:=Z.R 0x40000001a00f42a81f40f400a8a44aa9002168a04aa800216903d085a00f42147 [a,b,c] [m,n]
theorem Yc11:((m+n:Nat):Int)=(n:Int)+m:=Z.R 0x1068a04a29100a29a00103 [] [m,n]
theorem Yc12:a+b<=m->c<b->a+c<m:=Z.R 0x41068a0407daa80000a907da80087a28129a00087 [a,b,c] [m]
theorem Yc13:0<=a->0<=b->0<=a+b:=Z.R 0x1041a68000f42a40f421e803d087 [a,b] []
theorem Yc14:a+b-m=a-m+b:=Z.R 0x1069a28128040a28129a00043 [a,b] [m]
theorem Yc15:m<=a->0<=b->m<=a+b:=Z.R 0x1041a68028a040a903d087a28a04087 [a,b] [m]
theorem Yc16:a+m+b-m=a+b:=Z.R 0x1069a00a28129a28128000043 [a,b] [m]
theorem Yc17:0<=a->0<=b->m<=a+m+b:=Z.R 0x41069a28128000a28102a40f421e803d087 [a,b] [m]
theorem Yc18:a+b+c=a+c+b:=Z.R 0x1069aa8000aa9a00003 [a,b,c] []
theorem Yc19:a<=b->a+c<=b+c:=Z.R 0x106aa40aa8002a68087 [a,b,c] []
theorem Yc20:m<=a+0/\n<=b+0->n<=b:=Z.R 0x41029a2910203da40a2910203da00a28102147 [a,b] [m,n]
theorem Yc21:m<=a+0/\n<=b+0->m<=a:=Z.R 0x40068a2810203da40a2910203da00a28102147 [a,b] [m,n]
theorem Yc22:a+b<=m+n->p<=c+(b-1)/\m<=a+(b-1)->0<n:=Z.R 0x104006907d03d00007da41a00a2810207da41a80a2a102147a29128a04029a00087 [a,b,c] [m,n,p]
theorem Yc23:a+b<=m+n->m<=a+(b-1)/\p<=c+(b-1)->0<n:=Z.R 0x100106907d03d00007da41a80a2a10207da41a00a28102147a29128a04029a00087 [a,b,c] [m,n,p]
theorem Yc24:0<=a->b+0<m/\a+0<n->0<n:=Z.R 0x41001a41f40f40028a4407d03da00002a28101f40f690000851e803d087 [a,b] [m,n]
theorem Yc25:0<=a->a+0<m/\b+0<n->0<m:=Z.R 0x40041a01f40f40028a4407d03da40002a28101f40f680000851e803d087 [a,b] [m,n]
theorem Yc26:(m:Int)-1<m:=Z.R 0x68a0407d07da28101002 [] [m]
theorem Yc27:0<=a->b+0<m/\a+0<n->0<=(n:Int)-1:=Z.R 0x4100107da2910103d0a8a4407d03da00002a28101f40f690000851e803d087 [a,b] [m,n]
theorem Yc28:0<=a->a+0<m/\b+0<n->0<=(m:Int)-1:=Z.R 0x4004107da2810103d0a8a4407d03da40002a28101f40f680000851e803d087 [a,b] [m,n]
theorem Yc29:a+(m-b)=n->a+(m-b-1)=n-1:=Z.R 0x1040040041f68a44041f69a28101068003a29129a28101a000c7 [a,b] [m,n]
theorem Yc30:a+(m-a-1)=m-1:=Z.R 0x1041f68a04041f68a28101068003 [a] [m]
theorem Yc31:a+(m-a)=m:=Z.R 0x1068a04a28a04068003 [a] [m]
theorem Yc32:m<=a+(b-1)/\n<=c+(b-1)->m-a-1<b:=Z.R 0x4006907d07da28a0404100207da41a80a2910207da41a00a28102147 [a,b,c] [m,n]
theorem Yc33:a+0<m/\b+0<n->0<=m-a-1:=Z.R 0x40041f68a28101040f42a29101f40f690000a8a0407d03da00002147 [a,b] [m,n]
theorem Yc34:m<=a+(b-1)/\n<=c+(b-1)->m-a<b:=Z.R 0x1001a41f68a2810100207da41a80a2910207da41a00a28102147 [a,b,c] [m,n]
theorem Yc35:a+0<m/\b+0<n->0<=m-a:=Z.R 0x1001a28a04040f42a29101f40f690000a8a0407d03da00002147 [a,b] [m,n]
theorem Yc36:a+(m-a)<m/\b+(m-a)<n\/m<=a+(m-a)/\n<=b+(m-a)->a+(m-a-1)<m/\b+(m-a-1)<n\/m<=a+(m-a-1)/\n<=b+(m-a-1)->b+(m-a)=n:=Z.R 0x1000000040001000040041000000000001000000040000001000000068a44a28a0406900307da28a04041a40a2910207da28a04041a00a28102168a4407d07da28a04041a40002a28101f41f68a28101068000085187a28a04069028a440a8a28101a00a28102168a4407da28a040690000a8a0407da28a04068000085187 [a,b] [m,n]
theorem Yc37:a+(b-1)<m/\c+(b-1)<n->c+b<=n:=Z.R 0x41028a44a6a002a29101f41f6906a0000a8a0407d07da41a00002147 [a,b,c] [m,n]
theorem Yc38:a+(b-1)<m/\c+(b-1)<n->a+b<=m:=Z.R 0x40068a04a68002a29101f41f6906a0000a8a0407d07da41a00002147 [a,b,c] [m,n]
theorem Yc39:a-1<a:=Z.R 0x6807d07da01002 [a] []
theorem Yc40:0<a->0<=a-1:=Z.R 0x1041f68040f42a01f40f40087 [a] []
theorem Yc41:a+b<=m+n->c<b->a+c<m+n:=Z.R 0x41068a44a2810007daa80000a907da80087a29128a04029a00087 [a,b,c] [m,n]
theorem Yc42:¬a<m->m<=a:=Z.R 0x41a28a040a8a28101f68002107 [a] [m]
theorem Yc43:a<m+n->a-m<n:=Z.R 0x1068a4407da281280400a8a44a2810007da00087 [a] [m,n]
theorem Yc44:¬a<m->0<=a-m:=Z.R 0x1068a04a0103d0a8a28101f68002107 [a] [m]
theorem Yc45:0<=a->a<m->Int.toNat a<m:=Z.R 0x40041040040a01f68a04000a28101f680021e803d087 [a] [m]
theorem Yc46:Int.toNat (a-((m:Nat):Int))=Int.toNat a-m:=Z.R 0x1000001000001000001040001000001000001000041040001000041041001000041001001000041040001000001000028a28101a28a04a01101 [a] [m]
theorem Yc47:m<=a->m<=Int.toNat a:=Z.R 0x1041040068a04a00a28a04087 [a] [m]
theorem Yc48:¬0+(m:Int)<m:=Z.R 0x68a28101f68a0403d000084 [] [m]
theorem Yc49:¬m=0->¬(m:Int)=0:=Z.R 0x100100106803da2810312803da01107 [] [m]
theorem Yc50:0<=a->a+b<=m->0<=c->b<m\/b=m/\(0<a\/0=a/\0<=c):=Z.R 0x40001000040040040040000001041000001000041a80f42a00f4316807d03d0021a8a04a43168a0407da40086a80f421e8a04a680021e803d087 [a,b,c] [m]
theorem Yc51:0+1=m+(n+1+p)->n=0:=Z.R 0x1000041000f6906a07da40028001f40f40047 [] [m,n,p]
theorem Yc52:0+1=m+(n+1+p)->p=0:=Z.R 0x1000041000f6a06a07da40028001f40f40047 [] [m,n,p]
theorem Yc53:0+1=m+(n+1+p)->m=0:=Z.R 0x1000041000f6806a07da40028001f40f40047 [] [m,n,p]
theorem Yc54:0<a->0+m<=b->b+a<=m->fh:=Z.R 0x1041a28a04a290021e9a28100f40087a01f40f40087 [a,b] [m]
theorem Yc55:0<a->0<=b->b+a<=0->fh:=Z.R 0x4106803da290021e903d087a01f40f40087 [a,b] []
theorem Yc56:0+(m:Int)<=m:=Z.R 0x1a28128a0403d002 [] [m]
theorem Yc57:¬m=0->0<(m:Int):=Z.R 0x1041a28101f40f400a803da01107 [] [m]
theorem Yc58:m=0->0<a->0<=b->b+a<=m->fh:=Z.R 0x41040068a28128a40087a40f421e807d03d0021c0f68047 [a,b] [m]
theorem Yc59:0<=(m:Int):=Z.R 0x1a28100f42 [] [m]
theorem Yc60:a+b+3*m<=n+p+1->0<=a/\0<=b/\a+c<=n/\b+c<=p/\0<c->3*(m:Int)<=n+p+1:=Z.R 0x40000041041f68a84a29100028a040fe0aa07d03d002a2a12aa40085a2912aa00085a40f4216803d0851c1f68a84a29100028a040fea68000087 [a,b,c] [m,n,p]
theorem Yc61:3*0<=(m:Int)+n+1:=Z.R 0x41f68a44a2810002803d103f82 [] [m,n]
theorem Yc62:0<a->b+c+3*m<=d+e+1->f+a<=b/\g+a<=c/\b+h<=d/\c+h<=e/\0<h->¬(f+a=b/\g+a=c)->f+g+3*((m+(1:Nat):Nat):Int)<=d+e+1:=Z.R 0x4100000004108004000004000004100000100108004000000100007db2b000a01f680040febad0000a8aa8b800e9a2d0031441ef07d03d002b2fa80085aefa40085aa8b80085a68b400851c1f6cac0028a040feaa9000087a01f40f40087 [a,b,c,d,e,f,g,h] [m]
theorem Yc63:0<a->b+a<=c->d+a<=e->b+d+3*(((0:Nat)+(1:Nat):Nat):Int)<=c+e+1:=Z.R 0x4104207db2a000a01f40f40103faba40002b28ac0087aa8a40087a01f40f40087 [a,b,c,d,e] []
theorem Yc64:a<=b/\c<=d/\b+e<=f/\d+e<=g/\0<e->e+h<=h->fh:=Z.R 0x1040000028befb00087b01f40f400aeb2b00216db2900216ba82169a02147 [a,b,c,d,e,f,g,h] []
theorem Yc65:a+b=c/\d+b=e->a+b<=f/\d+b<=g/\f+h<=c/\g+h<=e/\0<h->f+h<=c->fh:=Z.R 0x40040040001028aafb40087bc1f40f400acbee00216abed00216ea6b00216da68002147b29ac00eaa68003147 [a,b,c,d,e,f,g,h] []
theorem Yc66:a<=b/\c<=d/\b+e<=f/\d+e<=g/\0<e->h+e<=h->fh:=Z.R 0x1040000028becbc0087b01f40f400aeb2b00216db2900216ba82169a02147 [a,b,c,d,e,f,g,h] []
theorem Yc67:a+b<c\/a+b=c/\(d<e\/d=e/\f<=g)->a+b<=c:=Z.R 0x100000004100004106aa68002bad0acac316c07dac0086aa9a000c5a81f69a00002187 [a,b,c,d,e,f,g] []
theorem Yc68:a<=b/\c<=d/\b+e<=f/\d+e<=g/\0<e->a<=h/\c<=i/\h+j<=f/\i+j<=g/\0<j->0<e+j:=Z.R 0x41000000040000031b0007d03d002c41f40f400aec7000216dc6f002170a8216fa02147b01f40f400aeb2b00216db2900216ba82169a02147 [a,b,c,d,e,f,g,h,i,j] []
theorem Yc69:a<=b/\c<=d/\b+e<=f/\d+e<=g/\0<e->a<=h/\c<=i/\h+j<=f/\i+j<=g/\0<j->0<=e+j:=Z.R 0x1040000001000000c6c000f42c41f40f400aec7000216dc6f002170a8216fa02147b01f40f400aeb2b00216db2900216ba82169a02147 [a,b,c,d,e,f,g,h,i,j] []
theorem Yc70:a+b=c/\d+b=e->f<=c/\g<=e/\c+h<=i/\e+h<=j/\0<h->d+(b+h)<=j:=Z.R 0x1001000000040031be902b002bc1f40f400b1bec002170bea00216cb8216ab42147b29ac00eaa68003147 [a,b,c,d,e,f,g,h,i,j] []
theorem Yc71:a+b=c/\d+b=e->f<=c/\g<=e/\c+h<=i/\e+h<=j/\0<h->a+(b+h)<=i:=Z.R 0x1000040000000070be9028002bc1f40f400b1bec002170bea00216cb8216ab42147b29ac00eaa68003147 [a,b,c,d,e,f,g,h,i,j] []
theorem Yc72:a+b+(c-b)=a+c:=Z.R 0x106aa00a6a069a00003 [a,b,c] []
theorem Yc73:a<b+c->a-b<c:=Z.R 0x106a07da680400aaa4007da00087 [a,b,c] []
theorem Yc74:¬a<b->0<=a-b:=Z.R 0x1069a0103d0a8a41f68002107 [a,b] []
theorem Yc75:a+b=a/\c+b=c->0<=a/\0<=c/\a+b<=m/\c+b<=n/\0<b->fh:=Z.R 0x40000000000068a41f40f400a8a44a6a002168a04a6800216a03d085a00f42147aa9a800e8a68003147 [a,b,c] [m,n]
theorem Yc76:0<a->¬a=0:=Z.R 0x41a00f680c4a01f40f40087 [a] []
theorem Yc77:3*(m:Int)<=3*n+p+q+4->3*r<=3*m+a->3*r<=3*n+(p+q+4+a):=Z.R 0x4106813da2b128a84000028a440fe028b040fe0a8a28103f80a2c103f821c4f68ac4a2a128a440fe000028a040fe087 [a] [m,n,p,q,r]
theorem Yc78:((m+(n+p):Nat):Int)=(m:Int)+n+p:=Z.R 0x1068a84a29128a04000a2aa40a00103 [] [m,n,p]
theorem Yc79:a+((m+(1:Nat):Nat):Int)=a+1+m:=Z.R 0x1068a0407da0002807da00128003 [a] [m]
theorem Yc80:a+0=a:=Z.R 0x41a2803d128003 [a] []
theorem Yc81:3*(m:Int)<=3*m+0:=Z.R 0x103da28103f80a28103f82 [] [m]
theorem Yc82:m<=n+1->3*(p:Int)<=q+r+1->3*((m+p:Nat):Int)<=3*(n:Int)+q+r+4:=Z.R 0x104313da2c128ac4a29103f80000a2aa00103f8207da2c128ac4000a2a103f821c1f69028007 [] [m,n,p,q,r]
theorem Yc83:(m:Int)+n-1-m<n:=Z.R 0x68a4407da28101f68a44a28100041002 [] [m,n]
theorem Yc84:0<m->0<=(n:Int)+m-1-n:=Z.R 0x1068a4407da28128a44001040f42a01f40f40007 [] [m,n]
theorem Yc85:(m:Int)+n-1-m=n-1:=Z.R 0x1041f68a44068a0407da29128a04001043 [] [m,n]
theorem Yc86:0<m->(n:Int)<=n+m-1:=Z.R 0x4107da28128a44001a29102a01f40f40007 [] [m,n]
theorem Yc87:((m+n:Nat):Int)=(m:Int)+n:=Z.R 0x1068a44a28100a29a00103 [] [m,n]
theorem Yc88:a=2*b+1->a<2*(b+1):=Z.R 0x100107da400be07da00081f690be0280c7 [a,b] []
theorem Yc89:a<2*b+1->a<2*(b+1):=Z.R 0x1041f69002f81f6800207da42f8007da00087 [a,b] []
theorem Yc90:0<m/\0<n/\0<p/\0<q/\a=b/\c=d->0<(q:Int):=Z.R 0x40000001000028ac407d03d002aea0e9a0316b07d03d00016a07d03d00016907d03d00016807d03d000147 [a,b,c,d] [m,n,p,q]
theorem Yc91:a=2*b->a<2*b+1:=Z.R 0x40041f690be001f68002a42fa80c7 [a,b] []
theorem Yc92:a<2*b->a<2*b+1:=Z.R 0x4107da42f8007da000a90be07da00087 [a,b] []
theorem Yc93:¬m=0->0<m:=Z.R 0x1041a01f40f4002803da01107 [] [m]
theorem Yc94:(m:Int)+n=((m+n:Nat):Int):=Z.R 0x1068a68004a29128a04003 [] [m,n]
theorem Yc95:m=0->0<m->fh:=Z.R 0x1001a2807d03d0001c0f68047 [] [m]
theorem Yc96:0<m->¬(m:Int)=0:=Z.R 0x41a00f68a040c4a01f40f40007 [] [m]
theorem Yc97:a<b->a+c<b+c:=Z.R 0x106aa4007daa80000a907da00087 [a,b,c] []
theorem Yc98:a+b<c+b->a<c:=Z.R 0x106a07da000a9a8007da68000087 [a,b,c] []
theorem zZ:(a+(0:Int))=a:=Z.R 0x41a00f68003 [a] []
theorem Yc100:a+(-min b ((m:Nat):Int))=max (a-((m:Nat):Int)) (a-b):=Z.R 0x1000040001001041001001041001000040029a01a28128042a28a04a43168003 [a,b] [m]
theorem Yc101:¬m<=2*a->b+(a-m)=min b (b-((m:Nat):Int)+a):=Z.R 0x1040080041000040028a28129040a43a28128069003a280bea28102107 [a,b] [m]
theorem Yc102:¬m<=2*a->a+a<m:=Z.R 0x41a28101f68a00002a280bea28102107 [a] [m]
theorem Yc103:m<=2*a->¬a+a<m:=Z.R 0x41a28a0407da28000084a02fa8a04087 [a] [m]
theorem Yc104:a-(a-m)=m:=Z.R 0x1068a04a28128068043 [a] [m]
theorem Yc105:max (a+b) (c+b-d)=max a (c-d)+b:=Z.R 0x1000040001001041001001041001000040029aea068080ae9a80069a00083 [a,b,c,d] []
theorem Yc106:min (a+b) (c+b+d)=min a (c+d)+b:=Z.R 0x1000040001040040041040040041000040029aea0280c0ae9a80029a000c3 [a,b,c,d] []
theorem Yc107:a+b-(c+b)=a-c:=Z.R 0x106aa01a6a029a00043 [a,b,c] []
theorem Yc108:0<m/\0<n/\a=b->0<=(m:Int)-1:=Z.R 0x40000041f68a04040f42a680e907d03d00016807d03d000147 [a,b] [m,n]
theorem Yc109:0<m->0=(m:Int)->fh:=Z.R 0x1001a28a0403d0c7a01f40f40007 [] [m]
theorem aFc:(0:Nat)<m->(0:Int)<((m:Nat):Int):=Z.R 0x1068a0407d03d002a01f40f40007 [] [m]
theorem Yc111:0<=a->0<b->0<=a+b:=Z.R 0x41069a0003d0a907d03d0021e803d087 [a,b] []
theorem Yc112:0<=a->a<=b->0<=b:=Z.R 0x4106903d0a9a021e803d087 [a,b] []
theorem Yc113:0<=a->0<b->c+b=m/\a+b=n->0<n:=Z.R 0x1001000041a41f40f40028a44a68003a28129a800c51e907d03d0021e803d087 [a,b,c] [m,n]
theorem Yc114:0<=a->0<b->a+b=m/\c+b=n->0<m:=Z.R 0x1000001041a01f40f40028a44a6a003a28129a000c51e907d03d0021e803d087 [a,b,c] [m,n]
theorem Yc115:a+b=m/\c+b=n->c+(b-1)=n-1:=Z.R 0x1040000040040001f68a44041f6906a003a29129a800e8a04a68003147 [a,b,c] [m,n]
theorem Yc116:a+b=m/\c+b=n->a+(b-1)=m-1:=Z.R 0x1000040040000041f68a04041f69068003a29129a800e8a04a68003147 [a,b,c] [m,n]
theorem Yc117:a+min b ((m:Nat):Int)=min (a+((m:Nat):Int)) (a+b):=Z.R 0x1040040041000040001000040001040040069a00a28128003a281290e8003 [a,b] [m]
theorem Yc118:0=m+n->m=0:=Z.R 0x1000041000f68069a0003d047 [] [m,n]
theorem aFb: ¬((0:Nat)<m)->m=(0:Nat):=Z.R 0x4004103da01a2807d03d000107 [] [m]
theorem Yc120:0+(m:Int)+0=0+m:=Z.R 0x41a28100f4003da28100f40003 [] [m]
theorem Yc121:0+(m:Int)+(-min a ((m:Nat):Int))=max (0:Int) ((0:Int)+((m:Nat):Int)-a):=Z.R 0x40001000040041040040041040040001000a28a0403d00103d0a8a281280c5a28100f40003 [a] [m]
theorem Yc122:0+(m:Int)-m=0:=Z.R 0x1040f68a04a28100f40043 [] [m]
theorem Yc123:a-m+m=a:=Z.R 0x1068a28128a04a01003 [a] [m]
theorem Yc124:0<m->¬m=0:=Z.R 0x41a00f68044a01f40f40007 [] [m]
theorem Yc125:m<=n+1->m=p+q->1<=p->q<=n:=Z.R 0x41040069ac0a81f401eba80a011c1f69028007 [] [m,n,p,q]
theorem Yc126:m<=n+1->p+1<=m->p<=n:=Z.R 0x41069a80a01f6a0001c1f69028007 [] [m,n,p]
theorem Yc127:0<=a->a<0->b=c:=Z.R 0x1040041aa90c0f41f680021e803d087 [a,b,c] []
theorem Yc128:a<=b->a+0<=b:=Z.R 0x41a40f68002a68087 [a,b] []
theorem Yc129:a+b+c<=((Int.toNat (a+b+c):Nat):Int):=Z.R 0x1041028a2aa68000104aa9a00002 [a,b,c] []
theorem Yc130:m<=5->n<=p+1->q<=r->s<=t->a=q+s+4*m->r<=m+66->t<=2*m+66->3*p<=3*0+a->n<64:=Z.R 0x30410400410431c283d07da40028a00f440fe028a840fe0870a2f680be02e0070a2f6802c007a28104fa8b44a2b1000280c7bad007b2b00707da80a401c5f68007 [a] [m,n,p,q,r,s,t]
theorem Yc131:m<=5->n<=p->q<=17*m->p<=2*m+66->r<10->q+n+r<200:=Z.R 0x10410414c6a3d07db29ac000000af41f6c0001c28bda02f80a801e847eac01eaa401c5f68007 [] [m,n,p,q,r]
theorem Yc132:m<=5->n<=p->q<=17*m->p<=m+66->r<10->q+n+r<200:=Z.R 0x1041041486a3d07db29ac000000af41f6c0001c28bda00a801e847eac01eaa401c5f68007 [] [m,n,p,q,r]
theorem Yc133:3000<=a/\a<3000+m->¬a<3000:=Z.R 0x1001a02f78f41f68002128a040bde3d001f68002a02f78f42147 [a] [m]
theorem Yc134:3000<=a/\a<3000+m->¬a<2000:=Z.R 0x1001a01fb0f41f68002128a040bde3d001f68002a02f78f42147 [a] [m]
theorem Yc135:3000<=a/\a<3000+m->¬a<1000:=Z.R 0x400687e8f41f68002128a040bde3d001f68002a02f78f42147 [a] [m]
theorem Yc136:m=n->¬m=0\/n=0:=Z.R 0x1040001040041000f6906803da01106a68047 [] [m,n]
theorem Yc137:(m:Int)+n+4+(p+q+4*r)=((m+p:Nat):Int)+((n+q:Nat):Int)+4*((r+(1:Nat):Nat):Int):=Z.R 0x106807db00104fa8ae9004a2aa00100028b0413ea2b128a8400013da29128a04000003 [] [m,n,p,q,r]
theorem Yc138:m<=n->p+m<=p+n:=Z.R 0x1069a80a2a000a68007 [] [m,n,p]
theorem Yc139:10*(m:Int)<=10*m+9/\10*(m:Int)+9<=10*m+2->fh:=Z.R 0x40a02f68a042be009f68a042be00227da2810af80a2810af82147 [] [m]
theorem Yc140:10*(m:Int)+9=10*m+8->fh:=Z.R 0x6823da2810af8027da2810af800c7 [] [m]
theorem Yc141:10*(m:Int)+8=10*m+9->fh:=Z.R 0x102827da2810af8023da2810af800c7 [] [m]
theorem Yc142:10*(m:Int)<=10*m+8/\10*(m:Int)+8<=10*m+2->fh:=Z.R 0x40a02f68a042be008f68a042be00223da2810af80a2810af82147 [] [m]
theorem Yc143:m<=5->n<=p->p<=2*m+66->n<100:=Z.R 0x104108393d07da400028bda02f80a801eaa401c5f68007 [] [m,n,p]
theorem Yc144:m<=5->n<=p->p<=m+66->n<100:=Z.R 0x104104393d07da400028bda00a801eaa401c5f68007 [] [m,n,p]
theorem Yc145:m<=5->n<=p->p<=2*m+66->n<1000:=Z.R 0x104109fa3d07da400028bda02f80a801eaa401c5f68007 [] [m,n,p]
theorem Yc146:m<=5->n<=p->p<=m+66->n<1000:=Z.R 0x104105fa3d07da400028bda00a801eaa401c5f68007 [] [m,n,p]
theorem Yc147:m<n->n<=5->(m:Int)<=5:=Z.R 0x104117da2810217da401e907da00007 [] [m,n]
theorem Yc148:Int.toNat (((m+(1:Nat):Nat):Int)-(1:Int))=m:=Z.R 0x1041001001028a01f6807da00101101 [] [m]
theorem Yc149:m=n+1->n+1+1=m+1:=Z.R 0x1001041001f68001f41f69000041f69028047 [] [m,n]
theorem Yc150:m<=5->n+1<m->1000+20*n<=a/\a<1020+20*n->a<2000:=Z.R 0x41014501fb0f41f68002a29114f9ff3d001f68002a28a4453e7e8f400851e807d07da400001c5f68007 [a] [m,n]
theorem Yc151:1000+20*m<=a/\a<1020+20*m->¬a<1000:=Z.R 0x400687e8f41f68002128a0453e7fcf4007da000a8a28114f9fa3d002147 [a] [m]
theorem Yc152:m=n+1->p+1<m->p<n:=Z.R 0x104006907da8002807d07da800001c1f69028047 [] [m,n,p]
theorem Yc153:m<10->2000<=a/\a<2000+m->a<3000:=Z.R 0x410010bde3d07da000a8a0407ec3d001f68002a01fb0f421472bd07da00007 [a] [m]
theorem Yc154:2000<=a/\a<2000+m->¬a<2000:=Z.R 0x1001a01fb0f41f68002128a0407ec3d001f68002a01fb0f42147 [a] [m]
theorem Yc155:2000<=a/\a<2000+m->¬a<1000:=Z.R 0x400687e8f41f68002128a0407ec3d001f68002a01fb0f42147 [a] [m]
theorem Yc156:m<10->m<=17:=Z.R 0x4147da002bd07da00007 [] [m]
theorem Yc157:a<=5->10*a+9<1000:=Z.R 0x4a7e8f41f49f682be000085f68087 [a] []
theorem Yc158:10*a+9<=10*a+9:=Z.R 0x49f682be009f682be002 [a] []
theorem Yc159:10*a<=10*a+9:=Z.R 0x127da0af80a0af82 [a] []
theorem Yc160:a<=5->10*a<=b/\b<=10*a+2->b<1000:=Z.R 0x4100a7e8f41f690020bda0af80a42a682be0851c5f68087 [a,b] []
theorem Yc161:10*a<=b/\b<=10*a+2->b<=10*a+9:=Z.R 0x41009f682be029082f682be0290a9a0af82147 [a,b] []
theorem Yc162:10*a<=b/\b<=10*a+2->10*a<=b:=Z.R 0x1001a682be082f682be0290a9a0af82147 [a,b] []
theorem Yc163:a<=5->10*a+8<1000:=Z.R 0x4a7e8f41f48f682be000085f68087 [a] []
theorem Yc164:10*a+8<=10*a+9:=Z.R 0x49f682be008f682be002 [a] []
theorem Yc165:10*a<=10*a+8:=Z.R 0x123da0af80a0af82 [a] []
theorem Yc166:m<n->a<=a+m/\a+m<a+n:=Z.R 0x1041028a44a0007da281280000a8a04a00a0216907da00007 [a] [m,n]
theorem Yc167:a=b+m->Int.toNat (a-b)=m:=Z.R 0x1041001000001001001000068a29a01101a281290280c7 [a,b] [m]
theorem Yc168:m=n+1->p=n->(m:Int)-1=p:=Z.R 0x1001040041000068a8407da281010e9a811c1f69028047 [] [m,n,p]
theorem Yc169:¬m<n->m-n<1->m=n:=Z.R 0x40001040040040001041000a68041f41f69a010001e8a41f68000107 [] [m,n]
theorem aFa: ¬(m<n)->n<=m:=Z.R 0x41a29028a41f68000107 [] [m,n]
theorem Yc171:m<=1/\n<=1->p<=q+r->p+n<=q+1+(r+1):=Z.R 0x1041001f6c001f6b000a6a000b2b02a00707da4007da00147 [] [m,n,p,q,r]
theorem Yc172:m<=1/\n<=1->p<=q+r->p+m<=q+1+(r+1):=Z.R 0x1040041f6c001f6b000a2a000b2b02a00707da4007da00147 [] [m,n,p,q,r]
theorem Yc173:m<5->m+1<=5:=Z.R 0x1045f41f6800017d07da00007 [] [m]
theorem Yc174:m=n+1->m+1=n+1+1:=Z.R 0x1040040041f41f6900007da00041f69028047 [] [m,n]
theorem Yc175:m+n<=p+q->r+p<=s+1+n->r+m<=s+1+q:=Z.R 0x4106b07db40028b0002907db4002ab00007aea029a00007 [] [m,n,p,q,r,s]
theorem Yc176:¬m=n->¬m<n->m-n=m-n-1+1:=Z.R 0x4100000004100000004100000004100000004100000004100000004100000004100000004100000004100000004100000004100000004100000004100000004100000004100000100100000100100000100100000100100000100100000100100000100100000100100004000100004000100004000100004000104000000104100000004000000004000000007d07da68041029a01068a41f68000107a29a01107 [] [m,n]
theorem Yc177:m+1+n<=m+(n+1):=Z.R 0x41f6902802907da00000 [] [m,n]
theorem Yc178:m+n<=m+(n+1):=Z.R 0x107da40a00a68000 [] [m,n]
theorem Yc179:0<=a->a<3->10*m<=10*m+a/\10*m+a<=10*m+2:=Z.R 0x1040040042f68a042be028a2810af800a8a2810af80a2810af82143f41f680021e803d087 [a] [m]
theorem Yc180:m+(n+1)=p->m+1+n=p:=Z.R 0x104004006aa41f6800006a07da40a00047 [] [m,n,p]
theorem Yc181:m<100->n+(p+1)=m->q+1<=5->r+s<=q+1+n->s<1000:=Z.R 0x104100105fa3d07db4002907dac002db0000717d07dac0007a01f6a0290011c393d07da00007 [] [m,n,p,q,r,s]
theorem Yc182:m+1<=5->m<1000:=Z.R 0x417e8f41f6800017d07da00007 [] [m]
theorem Yc183:m<Int.toNat ((1:Int)+a)->0<=a->a<17->1000+20*(((n+(1:Nat):Nat):Int)-1)<=1000+20*(n:Int)+m/\1000+20*(n:Int)+m<1020+20*(((n+(1:Nat):Nat):Int)-1):=Z.R 0x1001000040041040040040000001f6807da4010153e7fcf4007da28128a4453e7e8f400000a8a04a29114f9fa3d00007da01f69004054f9fa3d002151f41f680021e803d087a2807d00407da00007 [a] [m,n]
theorem Yc184:0<=a->a<17->Int.toNat ((1:Int)+a)<=(17:Nat):=Z.R 0x100104004047da2807d004011f41f680021e803d087 [a] []
theorem Yc185:0<=a->a<17->(0:Nat)<Int.toNat ((1:Int)+a):=Z.R 0x40041000068a01f40101f40f40011f41f680021e803d087 [a] []
theorem Yc186:10*(m:Int)+18=10*((m+(1:Nat):Nat):Int)+8:=Z.R 0x4123da01f680042be012f68a042be003 [] [m]
theorem Yc187:m=n+1->n<=m:=Z.R 0x1040a29001f69028047 [] [m,n]
theorem Yc188:m=n+2->n<=m:=Z.R 0x1040a29002f69028047 [] [m,n]
theorem Yc189:(m:Int)<4->m+1<5:=Z.R 0x4117d07d07da0000013d07da28100087 [] [m]
theorem Yc190:(m:Int)<4->m+1<1000000:=Z.R 0x105ec3283d07d07da0000013d07da28100087 [] [m]
theorem Yc191:m+1=n+1->(m:Int)<4->n<1000000:=Z.R 0x410407b0ca0f41f6900013d07da2810008707da4007da00047 [] [m,n]
theorem Yc192:(m:Int)<4->m<100:=Z.R 0x410e4f41f6800013d07da28100087 [] [m]
theorem Yc193:((m+(1:Nat):Nat):Int)-1=(m:Int):=Z.R 0x1068a0407da01f68004043 [] [m]
theorem Yc194:m+1<=5->m+1<100000:=Z.R 0x104387583d07d07da0000017d07da00007 [] [m]
theorem pO:m<(1000:Nat)->m<(1000000:Nat):=Z.R 0x105ec3283d07da0001fa3d07da00007 [] [m]
theorem Yc196:m=n->m<1000->n<1000:=Z.R 0x104101fa3d07da4001fa3d07da00007a68047 [] [m,n]
theorem Yc197:(m:Int)<((m+(n+(1:Nat)):Nat):Int):=Z.R 0x6807da40a00101f68a04002 [] [m,n]
theorem Yc198:m<1000->-1000000<(m:Int)/\(m:Int)<1000000:=Z.R 0x410407b0ca0f41f68a04002a28101f687b0ca0f4500215fa3d07da00007 [] [m]
theorem Yc199:-(1000000000:Int)<(20:Int)/\(20:Int)<(1000000000:Int):=Z.R 0x105de75cb083d07d53d00253d07da1de75cb083d140085 [] []
theorem Yc200:0<=a->a<17->Int.toNat ((1:Int)+a)<(1000000:Nat):=Z.R 0x10010400407b0ca0f41f68a01f40100011f41f680021e803d087 [a] []
theorem Yc201:0<=a->a<17->-1000000<1+a/\1+a<1000000:=Z.R 0x410010017b0ca0f41f6807d0000a807d001f687b0ca0f45002151f41f680021e803d087 [a] []
theorem Yc202:m<1->m=0:=Z.R 0x4004103da0107d07da00007 [] [m]
theorem Yc203:m=n->p=n->q<m->q<p:=Z.R 0x104100006a07dac002807dac0007a6a047a68047 [] [m,n,p,q]
theorem Yc204:m=n->p<=n+q+r->r=n->p<=2*m+q:=Z.R 0x100104202ba02f80a80a6c047b2ba4002a007a68047 [] [m,n,p,q,r]
theorem Yc205:m=n->p<=n+q->p<=m+q:=Z.R 0x104102ba00a80ae902a007a68047 [] [m,n,p,q]
theorem Yc206:m<=5->n=m->n<=5:=Z.R 0x1001045f69028a411c5f68007 [] [m,n]
theorem Yc207:(m:Int)=n->n=m:=Z.R 0x1001041028a41a29128a040c7 [] [m,n]
theorem Yc208:m=n->p<=q+m->p<=q+n+0:=Z.R 0x4100103da6b000a80a2b02a007a68047 [] [m,n,p,q]
theorem Yc209:m=n->p<=q+m->p<=q+n:=Z.R 0x1040069ac0a80a2b02a007a68047 [] [m,n,p,q]
theorem aE9:((0:Int)+((m:Nat):Int))=((m:Nat):Int):=Z.R 0x41a28128a0403d003 [] [m]
theorem aE8:m<=(5:Nat)->m<(100000:Nat):=Z.R 0x104387583d07da00005f68007 [] [m]
theorem Yc212:m=n+3\/m=n+3+1\/m=n+2\/m=n\/m=n+1->n<=m:=Z.R 0x1040041001040041001040a29001f69028069a01182f6902804607d0fda400280460fda40a01187 [] [m,n]
theorem Yc213:¬m+3+1=m:=Z.R 0x68a01f43f68000044 [] [m]
theorem Yc214:m+(n+p)<=q+r+s->m+(n+1+p)<=q+r+(s+1):=Z.R 0x1041f6d02cac002a07da40028000b6cac002aa40a00007 [] [m,n,p,q,r,s]
theorem Yc215:m+1<=n->m<=n:=Z.R 0x41a6802907da00007 [] [m,n]
theorem Yc216:m=n->¬p=m->p<n+1->p<n:=Z.R 0x40040040041040a41f6a00007da4007da80007a28a81107a68047 [] [m,n,p]
theorem Yc217:m=n->p=m->n+1<=p->fh:=Z.R 0x1001001a2a07da40007a2a047a68047 [] [m,n,p]
theorem Yc218:m<100->n<=5->p=n->q+(r+s)<=n+m+t->t<p->r<1000:=Z.R 0x4104004205fa3d07db0002a07db80007ba8a4002db00ac0007a6a04717da401c393d07da00007 [] [m,n,p,q,r,s,t]
theorem Yc219:m=n->n<=m:=Z.R 0x41028a40a68047 [] [m,n]
theorem Yc220:m<=5->n=p->q=m->p<q->n<1000:=Z.R 0x10400400417e8f41f69000ac1f6a0001e8ac11eaa411c5f68007 [] [m,n,p,q]
theorem Yc221:m<n->min m n=m:=Z.R 0x40001000001040041a29a0306907da00007 [] [m,n]
theorem Yc222:m=n->(p:Int)<n->p<m:=Z.R 0x104102807da80028a4407da2a100087a68047 [] [m,n,p]
theorem Yc223:m=n+1->m<=5->1+n+1<1000000:=Z.R 0x410407b0ca0f41f41f6907d00000017da001c1f69028047 [] [m,n]
theorem Yc224:0<=a->a<10->Int.toNat a<(10:Nat):=Z.R 0x400000400402bd07da2810000af41f680021e803d087 [a] []
theorem Yc225:0<=a->a<10->Int.toNat a<(1000000:Nat):=Z.R 0x100000100101ec3283d07da2810000af41f680021e803d087 [a] []
theorem Yc226:0<=a->a<10->-(1000000:Int)<(3000:Int)/\(3000:Int)<(1000000:Int)/\-1000000<3000+a/\3000+a<1000000:=Z.R 0x410010010400010007b0ca0f41f680bde3d0000a80bde3d001f687b0ca0f4500215ec3283d07d0bde3d002142f78f41f687b0ca0f4500214af41f680021e803d087 [a] []
theorem Yc227:0<=a->a<10->3000+a=3000+((Int.toNat a:Nat):Int):=Z.R 0x40001041000040000040000a28a04102f78f40a02f78f400caf41f680021e803d087 [a] []
theorem Yc228:m=n+1->m<=5->1+n<1000000:=Z.R 0x104101ec3283d07da41f4000017da001c1f69028047 [] [m,n]
theorem Yc229:0<=a->a<10->-(1000000:Int)<(2000:Int)/\(2000:Int)<(1000000:Int)/\-1000000<2000+a/\2000+a<1000000:=Z.R 0x410010010400010007b0ca0f41f6807ec3d0000a807ec3d001f687b0ca0f4500215ec3283d07d07ec3d002141fb0f41f687b0ca0f4500214af41f680021e803d087 [a] []
theorem Yc230:0<=a->a<10->2000+a=2000+((Int.toNat a:Nat):Int):=Z.R 0x40001041000040000040000a28a04101fb0f40a01fb0f400caf41f680021e803d087 [a] []
theorem Yc231:m<=63->n<=2*p+(3+m)->n<=2*p+66:=Z.R 0x10410a2f6a0be0290280fd02a0be02900707ff68007 [] [m,n,p]
theorem Yc232:m<=63->n<=p+(3+m)->n<=p+66:=Z.R 0x10410a2f6a0290280fd02a02900707ff68007 [] [m,n,p]
theorem Yc233:m<=63->3+m<100:=Z.R 0x104393d07da03f4000007ff68007 [] [m]
theorem Yc234:m<=63->3+m<1000000:=Z.R 0x105ec3283d07da03f4000007ff68007 [] [m]
theorem Yc235:((m+n:Nat):Int)=0+(m:Int)+n:=Z.R 0x41a29128a0403d000a29a00103 [] [m,n]
theorem Yc236:m<10000->n+(p+q)<=r/\s+(p+t)<=m->s+p+t<1000000:=Z.R 0x410017b0ca0f41f6eaad000000a2ea80b4002caea029000147278c3d07da00007 [] [m,n,p,q,r,s,t]
theorem Yc237:m<10000->n+(p+q)<=m/\r+(p+s)<=t->n+p+q<1000000:=Z.R 0x400417b0ca0f41f6baa9000000bada80b00028aea029000147278c3d07da00007 [] [m,n,p,q,r,s,t]
theorem Yc238:m<=5->n<m->p=n->p<1000000:=Z.R 0x10010417b0ca0f41f6a000a6a047a01f690001c5f68007 [] [m,n,p]
theorem Yc239:m<10000->n+(p+q)<=r/\s+(p+t)<=m->s+p<100000:=Z.R 0x410010e1d60f41f6ab40000a2ea80b4002caea029000147278c3d07da00007 [] [m,n,p,q,r,s,t]
theorem Yc240:m<10000->n+(p+q)<=m/\r+(p+s)<=t->n+p<100000:=Z.R 0x400410e1d60f41f6aa40000bada80b00028aea029000147278c3d07da00007 [] [m,n,p,q,r,s,t]
theorem Yc241:m<10000->n+(p+q)<=r/\s+(p+t)<=m->s+p<1000000:=Z.R 0x410017b0ca0f41f6ab40000a2ea80b4002caea029000147278c3d07da00007 [] [m,n,p,q,r,s,t]
theorem Yc242:m<10000->n+(p+q)<=m/\r+(p+s)<=t->n+p<1000000:=Z.R 0x400417b0ca0f41f6aa40000bada80b00028aea029000147278c3d07da00007 [] [m,n,p,q,r,s,t]
theorem Yc243:m=n+1->n<=5->m<100000:=Z.R 0x410010e1d60f41f6800017da401c1f69028047 [] [m,n]
theorem Yc244:m=n+1->p<n->p<m:=Z.R 0x41040a01f6a000a41f6a0001c1f69028047 [] [m,n,p]
theorem Yc245:(m:Int)<n->m<n:=Z.R 0x106907da00028a4407da28100087 [] [m,n]
theorem Yc246:m+n+(p+q)=m+p+(n+q):=Z.R 0x106ba40aa8000aea029a00001 [] [m,n,p,q]
theorem Yc247:a+m+n+p+q=a+((m+n+p:Nat):Int)+q:=Z.R 0x1068ac4a2aa68000128000a2b128a84a29128a04a00000003 [a] [m,n,p,q]
theorem Yc248:m=n+1->min m n=n:=Z.R 0x1040001040040000040000a69a03041f69028047 [] [m,n]
theorem Yc249:m<=200->n<=m->n<1000000:=Z.R 0x10417b0ca0f41f69000a290071a8f68007 [] [m,n]
theorem yU:m<(10000:Nat)->n<(10000:Nat)->(m+n)<(1000000:Nat):=Z.R 0x10417b0ca0f41f69a00000278c3d07da40007278c3d07da00007 [] [m,n]
theorem pN:m<(10000:Nat)->m<(100000:Nat):=Z.R 0x410e1d60f41f68000278c3d07da00007 [] [m]
theorem Yc252:m=n->p=n->m<=p:=Z.R 0x4100006aa00a6a047a68047 [] [m,n,p]
theorem Yc253:m=n->p-m=0->p-n=0:=Z.R 0x1000000000040000000001040000000040000040041000000000040000000001000001040040001000040f69a81040f68a81047a68047 [] [m,n,p]
theorem Yc254:m-n<1->m-n=0:=Z.R 0x4000004000004100004000104000004000004000104004003da6804107d07da68040007 [] [m,n]
theorem Yc255:m=n->¬p<m->n<=p:=Z.R 0x41040aa9028a01f6a000107a68047 [] [m,n,p]
theorem Yc256:m=n->p<m->p<n:=Z.R 0x104006907da8002807da80007a68047 [] [m,n,p]
theorem Yc257:m<=5->n=p->p+(q+1)=m->n<1000000:=Z.R 0x400400417b0ca0f41f69000a01f6b02a0011eaa411c5f68007 [] [m,n,p,q]
theorem yT:m<(10000:Nat)->m<(1000000:Nat):=Z.R 0x417b0ca0f41f68000278c3d07da00007 [] [m]
theorem aE7:m<(100000:Nat)->m<(1000000:Nat):=Z.R 0x105ec3283d07da0000387583d07da00007 [] [m]
theorem aE6: ¬((0:Nat)<m)->¬((0:Int)<((m:Nat):Int)):=Z.R 0x1068a28101f40f40084a2807d03d000107 [] [m]
theorem Yc261:m<100000->1+m<1000000:=Z.R 0x417b0ca0f41f6807d00000387583d07da00007 [] [m]
theorem Yc262:m<=1+n+1->m<=p+(n+1)+1:=Z.R 0x1041f41f6902a000a0007da41f40028007 [] [m,n,p]
theorem Yc263:m+1<=m+(n+1)+1:=Z.R 0x107d07da40a00001f68000 [] [m,n]
theorem Yc264:m<=n+1->m+1<=n+1+1:=Z.R 0x1041f41f6900007da00001f69028007 [] [m,n]
theorem Yc265:m<=n+1+p+1->m<=n+(p+1)+1:=Z.R 0x1041f41f6a029000a0007da81f69000028007 [] [m,n,p]
theorem Yc266:m<=n+1->m<=n+1+1:=Z.R 0x4107d07da40028001f69028007 [] [m,n]
theorem aE5:(m+(1:Nat))<(10000:Nat)->(m+(1:Nat))<(100000:Nat):=Z.R 0x410e1d60f41f41f68000009e30f41f41f68000007 [] [m]
theorem Yc268:m<10000->n=m->n<100000:=Z.R 0x400410e1d60f41f69000a29047278c3d07da00007 [] [m,n]
theorem Yc269:m<10000->n=m-1+1->n<100000:=Z.R 0x400400010010010e1d60f41f6900007d07da01029047278c3d07da00007 [] [m,n]
theorem Yc270:m+1<10000->m<100000:=Z.R 0x104387583d07da00009e30f41f41f68000007 [] [m]
theorem Yc271:0<m/\n<=2*a->0<(m:Int):=Z.R 0x40068a0407d03d002a02fa8a440a807d03d000147 [a] [m,n]
theorem Yc272:m<100000->n<100000->m+n<1000000:=Z.R 0x10417b0ca0f41f69a000000e1d60f41f690001c387583d07da00007 [] [m,n]
theorem Yc273:m<100000->n<100000->n+1+m<1000000:=Z.R 0x4105ec3283d07da01f690000000e1d60f41f690001c387583d07da00007 [] [m,n]
theorem Yc274:m<100000->m+1<1000000:=Z.R 0x417b0ca0f41f41f6800000387583d07da00007 [] [m]
theorem Yc275:m<100000->m<999999:=Z.R 0x105ec31ffd07da0000387583d07da00007 [] [m]
theorem Yc276:m<=200->n<=0+m+1->n<100000:=Z.R 0x10410e1d60f41f6900007da00f400290071a8f68007 [] [m,n]
theorem Yc277:m<=200->n<=m+1->n<10000:=Z.R 0x1041278c3d07da40001f680290071a8f68007 [] [m,n]
theorem Yc278:m<=5->n=m->n<100000:=Z.R 0x100104387583d07da40028a411c5f68007 [] [m,n]
theorem Yc279:m<=202->m<=n+204:=Z.R 0x1046b3da40a001aaf68007 [] [m,n]
theorem yS:m<=n->m<=(n+(204:Nat)):=Z.R 0x1046b3da40a00a68007 [] [m,n]
theorem Yc281:m+(n+1)<=m+(n+1):=Z.R 0x41f69028001f69028000 [] [m,n]
theorem Yc282:m<=202->1+m<=n+204:=Z.R 0x411acf6902807d0001aaf68007 [] [m,n]
theorem Yc283:m<=n->m+1<=n+204:=Z.R 0x411acf69001f68000a68007 [] [m,n]
theorem Yc284:m+(0+1)+(n+1)<=m+(0+1)+(n+1):=Z.R 0x41f69001f40f40a00001f69001f40f40a00000 [] [m,n]
theorem Yc285:m<=202->n<=p->n+1+m<=p+204:=Z.R 0x10411acf6a02807da40000aa90071aaf68007 [] [m,n,p]
theorem Yc286:m+(n+1)<=m+1+(n+1):=Z.R 0x107da4007da00001f69028000 [] [m,n]
theorem Yc287:m<=300*n+204->m<=300*(n+1):=Z.R 0x4107da4026cfa8006b3da49b3e028007 [] [m,n]
theorem Yc288:m<=300*n->p<=200/\q<100->r<=p+1->s<=m+r->s<=300*(n+1):=Z.R 0x4104004107da4026cfad02ca00b401c1f6a02c0070e4f41f6b0001a8f6a0051e926cfa8007 [] [m,n,p,q,r,s]
theorem Yc289:(m:Int)+1=((m+(1:Nat):Nat):Int):=Z.R 0x106807da00101f68a04003 [] [m]
theorem Yc290:m<=200/\n<100->p<=m+1->p<10000:=Z.R 0x1040049e30f41f6a00007da00a801c393d07da40006a3da00147 [] [m,n,p]
theorem Yc291:m<=200/\n<100->p<=0+m+1->p<10000:=Z.R 0x41001278c3d07da80001f6803d000a801c393d07da40006a3da00147 [] [m,n,p]
theorem Yc292:m<=200/\n<100->p<=0+m+1->p<=202:=Z.R 0x410011aaf6a001f6803d000a801c393d07da40006a3da00147 [] [m,n,p]
theorem Yc293:m<=200/\n<100->p=n->p<1000:=Z.R 0x4004101fa3d07da80029a811c393d07da40006a3da00147 [] [m,n,p]
theorem Yc294:m=n->p<n->p<m:=Z.R 0x104102807da8002907da80007a68047 [] [m,n,p]
theorem Yc295:(m:Int)<n->n=p->m<p:=Z.R 0x100106a07da0002aa411e8a4407da28100087 [] [m,n,p]
theorem Yc296:m<=n->n<=200->m<100000:=Z.R 0x10410e1d60f41f680001a8f69007a68007 [] [m,n]
theorem Yc297:m=n->(m:Int)=p->p=n:=Z.R 0x1001040041000069a81a2a128a040c7a68047 [] [m,n,p]
theorem Yc298:m=n->n<=5->m<100000:=Z.R 0x104004387583d07da00005f69007a68047 [] [m,n]
theorem Yc299:-1<a->0<=a:=Z.R 0x41a00f42a01f6807d140087 [a] []
theorem Yc300:a<=b+(-1)->min a b=a:=Z.R 0x40001000001040041a29a030e807d169028087 [a,b] []
theorem Yc301:a<=b+(-1)->a<=b:=Z.R 0x41a680a807d169028087 [a,b] []
theorem Yc302:a-((m+(1:Nat):Nat):Int)=b->a+(-1)-m=b:=Z.R 0x1040040069a2812807d1680010e9a01f68004a010c7 [a,b] [m]
theorem Yc303:a-((m+(1:Nat):Nat):Int)=b->b<a:=Z.R 0x4102807da400a9a01f68004a010c7 [a,b] [m]
theorem Yc304:a-0=b->a=b:=Z.R 0x41001001a680e9a00f44a010c7 [a,b] []
theorem Yc305:m<90/\n<90->m<200:=Z.R 0x10011a8f41f680000baf41f690000baf41f68000147 [] [m,n]
theorem Yc306:m=n->n<10->m<200:=Z.R 0x410011a8f41f680002bd07da40007a68047 [] [m,n]
theorem u9:m=n->n<(10:Nat)->m<(1000:Nat):=Z.R 0x410017e8f41f680002bd07da40007a68047 [] [m,n]
theorem yR:m<(200:Nat)->m<(1000:Nat):=Z.R 0x105fa3d07da00006a3d07da00007 [] [m]
theorem Yc309:m=n+1->0=m->fh:=Z.R 0x1001028a00f411c1f69028047 [] [m,n]
theorem Yc310:(0<m->0<n)/\n<=17/\p<100/\q<100->n<100:=Z.R 0x100004004000100393d07da4000393d07dac000393d07da8000547da4016907d03d000a01f40f40007147 [] [m,n,p,q]
theorem Yc311:m=n->n<=5->m<=5:=Z.R 0x1040045f68005f69007a68047 [] [m,n]
theorem Yc312:m=n+1->p=n->m=p+1:=Z.R 0x1001040041000041f6a028069a811c1f69028047 [] [m,n,p]
theorem Yc313:m=n->p=n->m=p:=Z.R 0x100104004100006aa01a6a047a68047 [] [m,n,p]
theorem Yc314:m=n->n<10->m<90:=Z.R 0x410010baf41f680002bd07da40007a68047 [] [m,n]
theorem Yc315:m<90/\n<90->m<1000/\n<1000:=Z.R 0x104004005fa3d07da4001fa3d07da000050baf41f690000baf41f68000147 [] [m,n]
theorem Yc316:m<=n->p<=q->n<=r+66->q<=2*r+66->r<=5->m<90/\p<90:=Z.R 0x420400400410010010baf41f6a0000baf41f68000145f6c0070a2f6c0be02b0070a2f6c029007aea007a68007 [] [m,n,p,q,r]
theorem aE4:m=n->n<(10:Nat)->m<(10000:Nat):=Z.R 0x1040049e30f41f680002bd07da40007a68047 [] [m,n]
theorem mQ:(m+n)<(200:Nat)->m<(10000:Nat):=Z.R 0x41278c3d07da00006a3d07da68000007 [] [m,n]
theorem Yc319:m<90->n<90->3*(p:Int)<=m+n+1->p<64:=Z.R 0x304104283d07da80001f68a44a28100028a840fe0870baf41f690001c2ebd07da00007 [] [m,n,p]
theorem Yc320:m<90->m<1000:=Z.R 0x105fa3d07da00002ebd07da00007 [] [m]
theorem Yc321:m<90->3*(n:Int)<=m+m+1->n<64:=Z.R 0x30420a0f41f6900007da28128a04000a29103f821c2ebd07da00007 [] [m,n]
theorem Yc322:0<a->b<=b+a:=Z.R 0x1068a40a42a01f40f40087 [a,b] []
set_option genCtorIdx true in
inductive V where
 |none |bool (b:fq) |int (i:Int) |str (s:Str)
 |tup (vs:ae V) |mat (i j k:Int)
 |ref (n:Nat) |dget (n:Nat) |scon (n:Nat) |rng (a b c:Int) |raw (a:dv)
 deriving Inhabited
end
variable{env:Env}{a b:ae Int}
inductive Gn where
 |fresh (lo:Str->aj V)
 |loop (it:Nat) (lo:Str->aj V)
 |last (lo:Str->aj V)
 |run
 |fin
 deriving Inhabited
set_option genCtorIdx true in
inductive MO where
 |list (vs:ae V) |ro (vs:ae V)
 |dict (n:Nat) (f:Int->aj V) |eset
 |inst (fs:Str->aj V)
 |gen (g:Gn)
 |itr (o:aj (Nat×Nat))
 deriving Inhabited
noncomputable abbrev MH:=ae MO
variable{H:MH}
structure Lc where
 a:dv
 d:dv
 g:aj Nat:=none
def Lc.has(l:Lc)(b:dv):Prop:=b=l.a\/b=l.d
def Own(ρ:ae Lc)(b:dv):Prop:=∃ l∈ρ,l.has b
def aX(o:Obj):Prop:=match o.data with
 | .seq _ _=>o.cls≠ .type "list"
 | .fields _=>o.cls= .type "builtin_function_or_method" \/o.cls= .type "range"
 |_=>fh
def Imm(h h':pa):Prop:=∀ b o,h.get? b=aa o->aX o->h'.get? b=aa o
theorem Imm.refl(h:pa):Imm h h:=λq q e q=>e
theorem Imm.trans(a:Imm h1 h2)(b:Imm h2 h3):Imm h1 h3:=λx o e i=>b x o (a x o e i) i
noncomputable abbrev aG:dv:=135
noncomputable abbrev d3:dv:=242
mutual
inductive VR(ρ:ae Lc)(h:pa):bx->V->Prop
 |none:VR ρ h .none .none
 |bool (b:_):VR ρ h (.bool b) (.bool b)
 |int (i t:_):VR ρ h (.int i t) (.int i)
 |str (s t:_):VR ρ h (.str s t) (.str s)
 |tup {a xs n vs:_}:h.get? a=aa {cls:=.type "tuple",data:=.seq xs n}->VRs ρ h xs.toList vs->VR ρ h (.ref a) (.tup vs)
 |mat {a n i j k t u v dd:_}:h.get? a=aa {cls:=.ref aG,dict:=dd,data:=.seq #[.int i t,.int j u,.int k v] n}->VR ρ h (.ref a) (.mat i j k)
 |ref {n l:_}:ρ[n]? =aa l->VR ρ h (.ref l.a) (.ref n)
 |dget {a n l:_}:ρ[n]? =aa l->h.get? a=aa {cls:=.type "builtin_function_or_method",data:=.fields #[.builtin "dict.get",.ref l.a]}->VR ρ h (.ref a) (.dget n)
 |scon {a n l:_}:ρ[n]? =aa l->h.get? a=aa {cls:=.type "builtin_function_or_method",data:=.fields #[.builtin "set.__contains__",.ref l.a]}->VR ρ h (.ref a) (.scon n)
 |rng {a i j k t u v:_}:IsRange h a i j k t u v->VR ρ h (.ref a) (.rng i j k)
 |raw (a:_):VR ρ h (.ref a) (.raw a)
inductive VRs(ρ:ae Lc)(h:pa):ae bx->ae V->Prop
 |nil:VRs ρ h [] []
 |cons {u us v vs:_}:VR ρ h u v->VRs ρ h us vs->VRs ρ h (u::us) (v::vs)
end
theorem aF{α:Type}{a:α}{P:Prop}(e:none=aa a):P:=nomatch e
def VRI(ρ:ae Lc)(h:pa)(x:bx):V->Prop
 | .none=>x= .none
 | .bool b=>x= .bool b
 | .int i=>∃ t,x= .int i t
 | .str s=>∃ t,x= .str s t
 | .tup vs=>∃ a xs n,x= .ref a/\h.get? a=aa {cls:=.type "tuple",data:=.seq xs n}/\VRs ρ h xs.toList vs
 | .mat i j k=>∃ a n t u v dd,x= .ref a/\h.get? a=aa {cls:=.ref aG,dict:=dd,data:=.seq #[.int i t,.int j u,.int k v] n}
 | .ref n=>∃ l,x= .ref l.a/\ρ[n]? =aa l
 | .dget n=>∃ a l,x= .ref a/\ρ[n]? =aa l/\h.get? a=aa {cls:=.type "builtin_function_or_method",data:=.fields #[.builtin "dict.get",.ref l.a]}
 | .scon n=>∃ a l,x= .ref a/\ρ[n]? =aa l/\h.get? a=aa {cls:=.type "builtin_function_or_method",data:=.fields #[.builtin "set.__contains__",.ref l.a]}
 | .rng i j k=>∃ a t u v,x= .ref a/\IsRange h a i j k t u v
 | .raw a=>x= .ref a
theorem VR.inv(r:VR ρ h u v):VRI ρ h u v:=by
 cases r with
 |none=>exact rfl
 |bool=>exact rfl
 |int i t=>exact⟨t,rfl⟩
 |str s t=>exact⟨t,rfl⟩
 |tup g rs=>exact⟨_,_,_,rfl,g,rs⟩
 |mat g=>exact⟨_,_,_,_,_,_,rfl,g⟩
 |ref g=>exact⟨_,rfl,g⟩
 |dget g g'=>exact⟨_,_,rfl,g,g'⟩
 |scon g g'=>exact⟨_,_,rfl,g,g'⟩
 |rng g=>exact⟨_,_,_,_,rfl,g⟩
 |raw=>exact rfl
theorem aT(e:ρ<+:ρ'){n:Nat}{l:Lc}(h:ρ[n]? =aa l):ρ'[n]? =aa l:=by
 refine xE e λt z1=>?_;clear e;subst z1
 exact rwL (eo (List.getElem?_eq_some_iff.mp h).1) h
theorem VR.mono(e:ρ<+:ρ')(i:Imm h h')(r:VR ρ h u v):VR ρ' h' u v:=by
 refine VR.rec (motive_1:=λu v q=>VR ρ' h' u v) (motive_2:=λus vs q=>VRs ρ' h' us vs) .none .bool .int .str ?_ ?_ ?_ ?_ ?_ ?_ .raw .nil ?_ r
 ·intro a xs n vs g _ ih;exact .tup (i _ _ g (by simp [aX])) ih
 ·intro a n x y z t u v dd g;exact .mat (i _ _ g (by simp [aX]))
 ·intro n l g;exact .ref (aT e g)
 ·intro a n l g g';exact .dget (aT e g) (i _ _ g' (by simp [aX]))
 ·intro a n l g g';exact .scon (aT e g) (i _ _ g' (by simp [aX]))
 ·intro a x y z t u v g;exact .rng (i _ _ g (by simp [aX]))
 ·intro u us v vs _ _ a b;exact .cons a b
theorem VRs.ind{P:ae bx->ae V->Prop}(n:P [] [])(c:∀ {u us v vs},VR ρ h u v->VRs ρ h us vs->P us vs->P (u::us) (v::vs))(r:VRs ρ h us vs):P us vs:=VRs.rec (motive_1:=λq q q=>vt) (motive_2:=λus vs q=>P us vs) trivial (λq=>trivial) (λq q=>trivial) (λq q=>trivial) (λq q q=>trivial) (λq=>trivial) (λq=>trivial) (λq q=>trivial) (λq q=>trivial) (λq=>trivial) (λq=>trivial) n (λa b q ih=>c a b ih) r
theorem VRs.mono(e:ρ<+:ρ')(i:Imm h h')(r:VRs ρ h us vs):VRs ρ' h' us vs:=r.ind (P:=λus vs=>VRs ρ' h' us vs) .nil λa q ih=>.cons (a.mono e i) ih
theorem VRs.length(r:VRs ρ h us vs):us.length=vs.length:=r.ind (P:=λus vs=>us.length=vs.length) rfl λq q ih=>ei Nat.succ ih
theorem VRs.get(r:VRs ρ h us vs):∀ {i:Nat}{v:V},vs[i]? =aa v->∃ u,us[i]? =aa u/\VR ρ h u v:=r.ind (P:=λus vs=>∀ {i:Nat}{v:V},vs[i]? =aa v->∃ u,us[i]? =aa u/\VR ρ h u v) (λe=>aF (List.getElem?_nil.symm.trans e)) λ{u us v vs} a q ih {i w} e=>by
  cases i with
  |zero=>exact⟨u,rfl,Option.some.inj e▸a⟩
  |succ i=>exact ih e
theorem VRs.append(r:VRs ρ h us vs)(b:VRs ρ h us' vs'):VRs ρ h (us++us') (vs++vs'):=r.ind (P:=λus vs=>VRs ρ h (us++us') (vs++vs')) b λa q ih=>.cons a ih
def OV(ρ:ae Lc)(h:pa):aj bx->aj V->Prop
 |none,none=>vt
 |some u,aa v=>VR ρ h u v
 |_,_=>fh
theorem OV.mono(e:ρ<+:ρ')(i:Imm h h'):∀ {u:aj bx}{v:aj V},OV ρ h u v->OV ρ' h' u v
 |none,none,_=>trivial
 |some _,aa _,x=>VR.mono e i x
 |none,aa _,x=>x.elim
 |some _,none,x=>x.elim
def c7:ae Str:=["isjunk","a","b","autojunk","matching_blocks","opcodes","fullbcount","b2j","bjunk","bpopular"]
structure Cx where
 prog:ux
 w:ko
 base:aw
 lim:base.heap.NoLimit
 GR:ae Lc->aw->Lc->Gn->Prop
 mono:∀ {ρ ρ':ae Lc}{s s':aw}{l:Lc}{g:Gn},ρ<+:ρ'->Imm s.heap s'.heap->(∀ o,s.heap.get? l.a=aa o->s'.heap.get? l.a=aa o)->(∀ o,s.heap.get? l.d=aa o->s'.heap.get? l.d=aa o)->
  (∀ k x,l.g=aa k->s.gens[k]? =aa x->s'.gens[k]? =aa x)->GR ρ s l g->GR ρ' s' l g
 here:∀ {ρ s l g},GR ρ s l g->∃ o o',s.heap.get? l.a=aa o/\s.heap.get? l.d=aa o'/\¬aX o/\¬aX o'
variable{C:Cx}
noncomputable abbrev Cx.M(C:Cx):zs:=iz C.prog C.w
def OR(C:Cx)(ρ:ae Lc)(s:aw)(l:Lc):MO->Prop
 | .list vs=>l.d=l.a/\l.g=none/\∃ xs n,IsL s.heap l.a xs n/\VRs ρ s.heap xs.toList vs
 | .ro vs=>l.d=l.a/\l.g=none/\∃ xs,C.base.heap.IsList l.a xs/\VRs ρ s.heap xs.toList vs
 | .dict n f=>l.d=l.a/\l.g=none/\∃ kvs:ae (Int×bx),s.heap.DictOf (uy C.prog C.w) l.a kvs/\kvs.length<=n/\∀ k,OV ρ s.heap (qo kvs k) (f k)
 | .eset=>l.d=l.a/\l.g=none/\∃ n t,s.heap.get? l.a=aa {cls:=.type "set",data:=.set #[] n t}/\t.fits 0=ak
 | .inst fs=>l.g=none/\l.d≠l.a/\(∃ o,s.heap.get? l.a=aa o/\o.cls= .ref d3/\o.data= .plain/\o.dict=aa l.d)/\∃ m,s.heap.Ns1 l.d m/\s.heap.ExactDictFk l.d/\Within m c7/\∀ x,OV ρ s.heap (m x) (fs x)
 | .gen g=>C.GR ρ s l g
 | .itr none=>l.d=l.a/\l.g=none/\∃ o,s.heap.get? l.a=aa o/\¬aX o
 | .itr (aa p)=>l.d=l.a/\l.g=none/\∃ li,ρ[p.1]? =aa li/\s.heap.IsListIter l.a li.a p.2
structure Sim(C:Cx)(H:MH)(ρ:ae Lc)(s:aw):Prop where
 len:ρ.length=H.length
 keep:∀ b o,C.base.heap.get? b=aa o->s.heap.get? b=aa o
 objs:∀ (i:Nat) (m:MO) (l:Lc),H[i]? =aa m->ρ[i]? =aa l->OR C ρ s l m
 ro:∀ (i:Nat) (l:Lc),ρ[i]? =aa l->(∃ vs,H[i]? =aa (.ro vs))\/(C.base.heap.get? l.a=none/\C.base.heap.get? l.d=none)
 disj:∀ (i j:Nat) (li lj:Lc),ρ[i]? =aa li->ρ[j]? =aa lj->i≠j->∀ b,li.has b->¬lj.has b
 disjG:∀ (i j:Nat) (li lj:Lc) (k:Nat),ρ[i]? =aa li->ρ[j]? =aa lj->i≠j->li.g=aa k->lj.g≠aa k
 os:s.os=C.base.os
 bare:tf s.gens
structure Nx(ρ:ae Lc)(W:dv->Prop)(s:aw)(ρ':ae Lc)(s':aw):Prop where
 pre:ρ<+:ρ'
 new:∀ l∈ρ'.drop ρ.length,s.heap.get? l.a=none/\s.heap.get? l.d=none
 kp:∀ b o,s.heap.get? b=aa o->¬Own ρ b->¬W b->s'.heap.get? b=aa o
 imm:Imm s.heap s'.heap
 al:∀ b o,s.heap.get? b=aa o->∃ o',s'.heap.get? b=aa o'
theorem Nx.own(N:Nx ρ W s ρ' s'){b:dv}(hb:s.heap.get? b=aa o)(h: ¬Own ρ b): ¬Own ρ' b:=by
 rintro ⟨l,hl,hh⟩
 refine xE N.pre λt z2=>?_;subst z2
 refine Or.elim (cu.mp hl) (λq=>(h ⟨l,q,hh⟩)) λq=>?_
 ·have:=N.new l (by simpa using q)
  rcases hh with rfl |rfl
  ·rw[this.1]at hb;exact aF hb
  ·rw[this.2]at hb;exact aF hb
theorem Nx.refl:Nx ρ W s ρ s:=⟨cx _,λl hl=>by simp at hl,λq q e q q=>e,.refl _,λq o e=>⟨o,e⟩⟩
theorem Nx.trans(a:Nx ρ W s ρ1 s1)(b:Nx ρ1 W s1 ρ2 s2):Nx ρ W s ρ2 s2:=by
 refine⟨a.pre.trans b.pre,λl hl=>(xE a.pre λt z3=>?_),λx o e ho hw=>b.kp x o (a.kp x o e ho hw) (a.own e ho) hw,a.imm.trans b.imm,λx o e=>let ⟨o',e'⟩:=a.al x o e;b.al x o' e'⟩;subst z3
 refine xE b.pre λt' z4=>?_;subst z4
 rw[bn,vk]at hl
 refine Or.elim (cu.mp hl) (λq=>(a.new l (by simpa using q))) λq=>?_
 ·have n:=b.new l (by simpa using q)
  refine⟨?_,?_⟩
  ·cases e:s.heap.get? l.a with
   |none=>rfl
   |some o=>refine xE (a.al _ _ e) λo' e'=>?_;rw[n.1]at e';exact aF e'
  ·cases e:s.heap.get? l.d with
   |none=>rfl
   |some o=>refine xE (a.al _ _ e) λo' e'=>?_;rw[n.2]at e';exact aF e'
theorem Nx.weaken(a:Nx ρ W s ρ' s')(h:∀ b,W b->W' b):Nx ρ W' s ρ' s':=⟨a.pre,a.new,λb o e ho hw=>a.kp b o e ho λq=>hw (h b q),a.imm,a.al⟩
def noW:dv->Prop:=λq=>fh
theorem OR.mono(e:ρ<+:ρ')(i:Imm s.heap s'.heap)(h1:∀ o,s.heap.get? l.a=aa o->s'.heap.get? l.a=aa o)(h2:∀ o,s.heap.get? l.d=aa o->s'.heap.get? l.d=aa o)(h3:∀ k x,l.g=aa k->s.gens[k]? =aa x->s'.gens[k]? =aa x)(r:OR C ρ s l m):OR C ρ' s' l m:=by
 cases m with
 |list vs=>exact j4 r λa g xs n x y=>⟨a,g,xs,n,h1 _ x,y.mono e i⟩
 |ro vs=>exact qC r λa g xs x y=>⟨a,g,xs,x,y.mono e i⟩
 |dict n f=>refine vD r λa g kvs z5 x y=>?_;obtain⟨o,es,ep,ho,q⟩:=z5;exact⟨a,g,kvs,⟨o,es,ep,h1 _ ho,q⟩,x,λk=>(y k).mono e i⟩
 |eset=>exact j4 r λa g n t x y=>⟨a,g,n,t,h1 _ x,y⟩
 |inst fs=>refine nU r λg ne z6 m z7 z8 w y=>xEA z6 λo a b=>?_;obtain⟨o',es,ep,ho,q⟩:=z7;exact xEA z8 λod hd x=>⟨g,ne,⟨o,h1 _ a,b⟩,m,⟨o',es,ep,h2 _ ho,q⟩,⟨od,h2 _ hd,x⟩,w,λk=>(y k).mono e i⟩
 |gen g=>exact C.mono e i h1 h2 h3 r
 |itr p=>cases p with
  |none=>exact qC r λa g o y z=>⟨a,g,o,h1 _ y,z⟩
  |some p=>exact aFg r λa g li x o y z=>⟨a,g,li,aT e x,o,h1 _ y,z⟩
theorem Sim.same(S:Sim C H ρ s)(hk:∀ b o,s.heap.get? b=aa o->(Own ρ b\/(C.base.heap.get? b).isSome=ak)->s'.heap.get? b=aa o)(i:Imm s.heap s'.heap)(hg:∀ (k:Nat) (x:th),s.gens[k]? =aa x->s'.gens[k]? =aa x)(hos:s'.os=s.os)(hb:tf s'.gens):Sim C H ρ s':=by
 refine⟨S.len,λb o e=>hk b o (S.keep b o e) (.inr (by refine rwL e ?_;rfl)),λj m l hm hj=>?_,S.ro,S.disj,S.disjG,hos.trans S.os,hb⟩
 have hmem:l∈ρ:=dm hj
 exact(S.objs j m l hm hj).mono (cx _) i (λo e=>hk _ o e (.inl ⟨l,hmem,.inl rfl⟩)) (λo e=>hk _ o e (.inl ⟨l,hmem,.inr rfl⟩)) (λk x q e=>hg k x e)
noncomputable abbrev Lo:=Str->aj V
variable{lo:Lo}
def Wr(env:Env)(b:dv):Prop:=b=env.locals\/∃ x,env.cells.lookup x=aa b
structure Fm(C:Cx)(env:Env)(ρ:ae Lc)(s:aw)(lo:Lo):Prop where
 fn:env.scope.kind= .function
 gl:env.globals=gh
 bi:env.builtins=kz
 ns:∃ m,s.heap.Ns env.locals m/\∀ x,env.kindOf x=aa .local->OV ρ s.heap (m x) (lo x)
 cl:∀ x,env.kindOf x=aa .cell\/env.kindOf x=aa .free->∃ c o u,env.cells.lookup x=aa c/\s.heap.get? c=aa o/\o.data= .cell u/\OV ρ s.heap u (lo x)
 own:∀ b,Wr env b->¬Own ρ b/\C.base.heap.get? b=none
 dis:∀ x c,env.cells.lookup x=aa c->c≠env.locals
 inj:∀ x y c,env.cells.lookup x=aa c->env.cells.lookup y=aa c->x=y
 alv:∀ b,Wr env b->∃ o,s.heap.get? b=aa o
theorem Fm.next(F:Fm C env ρ s lo)(N:Nx ρ W s ρ' s')(hw:∀ b,Wr env b->¬W b):Fm C env ρ' s' lo:=by
 refine xEA F.ns λm z9 hm=>?_;obtain⟨o,es,ep,ho,hr⟩:=z9
 have k:∀ b o,Wr env b->s.heap.get? b=aa o->s'.heap.get? b=aa o:=λb o hb e=>N.kp b o e (F.own b hb).1 (hw b hb)
 exact⟨F.fn,F.gl,F.bi,⟨m,⟨o,es,ep,k _ _ (.inl rfl) ho,hr⟩,λx hx=>(hm x hx).mono N.pre N.imm⟩,λx hx=>(cR (F.cl x hx) λc o u h1 h2 h3 h4=>⟨c,o,u,h1,k _ _ (.inr ⟨x,h1⟩) h2,h3,h4.mono N.pre N.imm⟩),λb hb=>⟨(let ⟨o,e⟩:=F.alv b hb;N.own e (F.own b hb).1),(F.own b hb).2⟩,F.dis,F.inj,λb hb=>let ⟨o,e⟩:=F.alv b hb;N.al b o e⟩
def Room(r:Nat)(A:gj):Prop:=A.handled=none/\A.depth+10*r<=700/\A.units+40*r<=8000
theorem Room.lt(h:Room r A):A.depth<recursionLimit:=by have:=h.2.1;exact(A0 this:A.depth<1000)
noncomputable abbrev NoE:bx->aw->Prop:=λq q=>fh
noncomputable abbrev EK:=V->MH->Prop
noncomputable abbrev EF:=Lo->MH->EK->Prop
inductive EPo(C:Cx)(ρ:ae Lc)(s:aw)(H':MH)(v:V)(x:bx)(s':aw):Prop
 |mk (ρ':ae Lc) (S:Sim C H' ρ' s') (N:Nx ρ noW s ρ' s') (r:VR ρ' s'.heap x v):EPo C ρ s H' v x s'
inductive b5(C:Cx)(ρ:ae Lc)(s:aw)(Q:EK)(x:bx)(s':aw):Prop
 |mk {ρ':ae Lc}{v:V}{H':MH} (S:Sim C H' ρ' s') (N:Nx ρ noW s ρ' s') (r:VR ρ' s'.heap x v) (q:Q v H'):b5 C ρ s Q x s'
def EV(C:Cx)(r:Nat)(env:Env)(e:Expr)(f:EF):Prop:=∀ ⦃A:gj⦄⦃s:aw⦄⦃ρ:ae Lc⦄⦃H:MH⦄⦃lo:Lo⦄⦃Q:EK⦄,Room r A->Sim C H ρ s->Fm C env ρ s lo->f lo H Q->
  ax C.M A (jl e env) (b5 C ρ s Q) NoE s
theorem wmN{s:aw}(h:ax M A t P NoE s)(k:∀ a s',P a s'->Q a s'):ax M A t Q E s:=ir h k λq q z=>z.elim
theorem b5.run{K:bx->aw->Prop}(h:ax M A t (b5 C ρ s Q) NoE s)(k:∀ {x s' ρ' v H'},Sim C H' ρ' s'->Nx ρ noW s ρ' s'->VR ρ' s'.heap x v->Q v H'->K x s'):ax M A t K E s:=wmN h λ_ _ ⟨S,N,r,q⟩=>k S N r q
theorem EV.run(h:EV C r env e f){K:bx->aw->Prop}(hr:Room r A)(S:Sim C H ρ s)(F:Fm C env ρ s lo)(q:f lo H Q)(k:∀ {x s' ρ' v H'},Sim C H' ρ' s'->Nx ρ noW s ρ' s'->VR ρ' s'.heap x v->Q v H'->K x s'):ax C.M A (jl e env) K E s:=b5.run (h hr S F q) k
theorem EPo.post(h:EPo C ρ s H' v x s')(q:Q v H'):b5 C ρ s Q x s':=let ⟨_,S,N,r⟩:=h;⟨S,N,r,q⟩
theorem Fm.nx(F:Fm C env ρ s lo)(N:Nx ρ noW s ρ' s'):Fm C env ρ' s' lo:=F.next N λq q z=>z
theorem VR.nx(r:VR ρ s.heap u v)(N:Nx ρ W s ρ' s'):VR ρ' s'.heap u v:=r.mono N.pre N.imm
theorem VRs.nx(r:VRs ρ s.heap us vs)(N:Nx ρ W s ρ' s'):VRs ρ' s'.heap us vs:=r.mono N.pre N.imm
theorem b5.from(N:Nx ρ noW s ρ1 s1)(p:b5 C ρ1 s1 Q x s'):b5 C ρ s Q x s':=let ⟨S,N',r,q⟩:=p;⟨S,N.trans N',r,q⟩
theorem EPo.from(N:Nx ρ noW s ρ1 s1)(p:EPo C ρ1 s1 H' v x s'):EPo C ρ s H' v x s':=let ⟨ρ',S,N',r⟩:=p;⟨ρ',S,N.trans N',r⟩
theorem bC(h:pa):h.get? h.objs.size=none:=by
 cases e:h.get? h.objs.size with
 |none=>rfl
 |some o=>exact bw (Heap.lt_size e) (Nat.lt_irrefl _)
theorem Sim.toks(S:Sim C H ρ s)(k:Nat):Sim C H ρ {s with toks:=k}:=S.same (λq q e q=>e) (.refl _) (λq q e=>e) rfl S.bare
theorem Nx.toks(k:Nat):Nx ρ W s ρ {s with toks:=k}:=⟨cx _,λl hl=>by simp at hl,λq q e q q=>e,.refl _,λq o e=>⟨o,e⟩⟩
theorem i7(h:pa)(o:Obj):Imm h (h.push o):=λb x e q=>Heap.get?_push_of_some o e
theorem Sim.push(S:Sim C H ρ s)(o:Obj):Sim C H ρ {s with heap:=s.heap.push o}:=S.same (λq q e q=>Heap.get?_push_of_some o e) (i7 _ _) (λq q e=>e) rfl S.bare
theorem Nx.push(o:Obj):Nx ρ W s ρ {s with heap:=s.heap.push o}:=⟨cx _,λl hl=>by simp at hl,λq q e q q=>Heap.get?_push_of_some o e,i7 _ _,λq x e=>⟨x,Heap.get?_push_of_some o e⟩⟩
theorem Sim.live(S:Sim C H ρ s){i:Nat}(hl:ρ[i]? =aa l):(∃ o,s.heap.get? l.a=aa o/\¬aX o)/\∃ o,s.heap.get? l.d=aa o/\¬aX o:=by
 have hlt:i<H.length:=rwR S.len ((List.getElem?_eq_some_iff.mp hl).1)
 have r:=S.objs i H[i] l (df hlt) hl
 revert r
 cases H[i] with
 |list vs=>rintro ⟨a,g,xs,n,x,y⟩;exact rwL a ⟨⟨_,x,by simp [aX]⟩,⟨_,x,by simp [aX]⟩⟩
 |ro vs=>rintro ⟨a,g,xs,⟨o,x,hc,n,hd⟩,y⟩;rw[a];have:=S.keep _ _ x;exact⟨⟨_,this,by simp [aX,hd,hc]⟩,⟨_,this,by simp [aX,hd,hc]⟩⟩
 |dict n f=>rintro ⟨a,g,kvs,⟨o,es,ep,ho,hc,hd,_⟩,_⟩;exact rwL a ⟨⟨_,ho,by simp [aX,hd]⟩,⟨_,ho,by simp [aX,hd]⟩⟩
 |eset=>rintro ⟨a,g,n,t,x,y⟩;rw[a];exact⟨⟨_,x,by simp [aX]⟩,⟨_,x,by simp [aX]⟩⟩
 |inst fs=>rintro ⟨g,ne,⟨o,a,_,b,_⟩,m,⟨o',es,ep,ho,hd,q⟩,_⟩;exact⟨⟨_,a,by simp [aX,b]⟩,⟨_,ho,by simp [aX,hd]⟩⟩
 |gen g=>intro r;exact xEEAAA (C.here r) λo o' h1 h2 h3 h4=>⟨⟨o,h1,h3⟩,⟨o',h2,h4⟩⟩
 |itr p=>cases p with
  |none=>rintro ⟨a,g,o,y,z⟩;rw[a];exact⟨⟨o,y,z⟩,⟨o,y,z⟩⟩
  |some p=>rintro ⟨a,g,li,x,o,y,z1,z2⟩;rw[a];exact⟨⟨o,y,by simp [aX,z1,z2]⟩,⟨o,y,by simp [aX,z1,z2]⟩⟩
theorem eO(hk:∀ b o,h.get? b=aa o->h'.get? b=aa o):Imm h h':=λb o e q=>hk b o e
theorem g7{α:Type}{ρ:ae α}{l l':α}(h:(ρ++[l])[i]? =aa l'):ρ[i]? =aa l'\/(i=ρ.length/\l'=l):=by
 refine Or.elim (uj i ρ.length) (λq=>?_) λq=>?_
 ·rw[eo q]at h;exact .inl h
 ·rw[dh q]at h
  cases e:i-ρ.length with
  |zero=>rw[e]at h;exact .inr ⟨Nat.le_antisymm (Nat.le_of_sub_eq_zero e) q,(Option.some.inj h).symm⟩
  |succ n=>rw[e]at h;exact aF h
theorem kR(S:Sim C H ρ s){b:dv}(h:s.heap.get? b=none):C.base.heap.get? b=none:=by
 cases e:C.base.heap.get? b with
 |none=>rfl
 |some o=>rw[S.keep _ _ e]at h;exact cyM h
theorem qL{C:Cx}{H:MH}{ρ:ae Lc}{s:aw}(S:Sim C H ρ s){l:Lc}(ha:s.heap.get? l.a=none)(hd:s.heap.get? l.d=none){b:dv}(h:l.has b): ¬Own ρ b:=by
 rintro ⟨l',hl,hb⟩
 refine xE (iu hl) λi hi=>xAEA (S.live hi) λz11 o' h2 c=>xEA z11 λo h1 c=>?_
 have q:s.heap.get? b=none:=by rcases h with rfl |rfl<;>assumption
 rcases hb with rfl |rfl
 ·rw[q]at h1;exact aF h1
 ·rw[q]at h2;exact aF h2
theorem Sim.new(S:Sim C H ρ s)(hk:∀ b o,s.heap.get? b=aa o->s'.heap.get? b=aa o)(hg:∀ (k:Nat) (x:th),s.gens[k]? =aa x->s'.gens[k]? =aa x)(hos:s'.os=s.os)(hb:tf s'.gens)(ha:s.heap.get? l.a=none)(hd:s.heap.get? l.d=none)(hf:∀ k,l.g=aa k->∀ l'∈ρ,l'.g≠aa k)(hm:OR C (ρ++[l]) s' l m):Sim C (H++[m]) (ρ++[l]) s'/\∀ W,Nx ρ W s (ρ++[l]) s':=by
 have fo:= @qL C H ρ s S l ha hd
 refine⟨⟨by refine rwL af (rwL af (rwL S.len ?_));rfl,λb o e=>hk b o (S.keep b o e),λi x l' hx hl=>?_,λi l' hl=>?_,λi j li lj hi hj hne b h1 h2=>?_,λi j li lj k hi hj hne h1 h2=>?_,hos.trans S.os,hb⟩,
  λW=>⟨ou _ _,λl' hl=>?_,λb o e c c=>hk b o e,eO hk,λb o e=>⟨o,hk b o e⟩⟩⟩
 ·rcases g7 hl with q |⟨rfl,rfl⟩
  ·rw[eo (rwR S.len ((List.getElem?_eq_some_iff.mp q).1))]at hx
   exact(S.objs i x l' hx q).mono (ou _ _) (eO hk) (λo e=>hk _ o e) (λo e=>hk _ o e) (λk y c e=>hg k y e)
  ·rw[S.len,dh (Nat.le_refl _),mz]at hx
   exact cxS hx hm
 ·rcases g7 hl with q |⟨rfl,rfl⟩
  ·exact rwL (eo (rwR S.len ((List.getElem?_eq_some_iff.mp q).1))) (S.ro i l' q)
  ·exact .inr ⟨kR S ha,kR S hd⟩
 ·rcases g7 hi with q |⟨e1,rfl⟩<;>rcases g7 hj with q' |⟨e2,rfl⟩
  ·exact S.disj i j li lj q q' hne b h1 h2
  ·exact fo h2 ⟨li,dm q,h1⟩
  ·exact fo h1 ⟨lj,dm q',h2⟩
  ·exact hne (e1.trans e2.symm)
 ·rcases g7 hi with q |⟨e1,rfl⟩<;>rcases g7 hj with q' |⟨e2,rfl⟩
  ·exact S.disjG i j li lj k q q' hne h1 h2
  ·exact hf k h2 li (dm q) h1
  ·exact hf k h1 lj (dm q') h2
  ·exact hne (e1.trans e2.symm)
 ·rw[vk]at hl;cases cq.mp hl;exact⟨ha,hd⟩
theorem Sim.grow(S:Sim C H ρ s)(hk:∀ b o,s.heap.get? b=aa o->h'.get? b=aa o)(ha:s.heap.get? l.a=none)(hd:s.heap.get? l.d=none)(hlg:l.g=none)(hm:OR C (ρ++[l]) {s with heap:=h',toks:=k} l m):Sim C (H++[m]) (ρ++[l]) {s with heap:=h',toks:=k}/\∀ W,Nx ρ W s (ρ++[l]) {s with heap:=h',toks:=k}:=S.new (s':= {s with heap:=h',toks:=k}) hk (λq q e=>e) rfl S.bare ha hd (λk e=>by rw[hlg]at e;exact aF e) hm
theorem Sim.last(S:Sim C H ρ s):(ρ++[l])[H.length]? =aa l:=by refine rwR S.len ?_;simp
theorem Sim.alloc(S:Sim C H ρ s)(o:Obj)(m:MO)(hm:OR C (ρ++[⟨s.heap.objs.size,s.heap.objs.size,none⟩]) {s with heap:=s.heap.push o} ⟨s.heap.objs.size,s.heap.objs.size,none⟩ m):
  Sim C (H++[m]) (ρ++[⟨s.heap.objs.size,s.heap.objs.size,none⟩]) {s with heap:=s.heap.push o}:=(S.grow (k:=s.toks) (λq q e=>Heap.get?_push_of_some o e) (bC _) (bC _) rfl hm).1
theorem Nx.alloc(o:Obj):Nx ρ W s (ρ++[⟨s.heap.objs.size,s.heap.objs.size,none⟩]) {s with heap:=s.heap.push o}:=⟨ou _ _,λl hl=>by simp at hl;exact rwL hl ⟨bC _,bC _⟩,λq q e q q=>Heap.get?_push_of_some o e,i7 _ _,λq x e=>⟨x,Heap.get?_push_of_some o e⟩⟩
theorem Sim.upd(S:Sim C H ρ s)(hl:ρ[i]? =aa l)(hH:H[i]? =aa m)(hro:∀ vs,m≠ .ro vs)(hk:∀ b o,s.heap.get? b=aa o->¬l.has b->s'.heap.get? b=aa o)(hi:Imm s.heap s'.heap)(hg:s'.gens=s.gens)(hos:s'.os=s.os)(hm:OR C ρ s' l m')(hnr:∀ vs,m'≠ .ro vs):Sim C (H.set i m') ρ s':=by
 have hil:i<H.length:=(List.getElem?_eq_some_iff.mp hH).1
 have hbase:C.base.heap.get? l.a=none/\C.base.heap.get? l.d=none:=by
  rcases S.ro i l hl with ⟨vs,e⟩ |e
  ·rw[hH]at e;exact bw (Option.some.inj e) (hro vs)
  ·exact e
 refine⟨by simp [S.len],λb o e=>hk b o (S.keep b o e) (λq=>by rcases q with rfl |rfl<;>simp_all),λj x lj hx hj=>?_,λj lj hj=>?_,S.disj,S.disjG,hos.trans S.os,rwL hg S.bare⟩
 ·by_cases e:j=i
  ·subst e
   rw[hl]at hj;refine cxS hj ?_
   rw[fe hil]at hx;refine cxS hx ?_
   exact hm
  ·rw[jf (Ne.symm e)]at hx
   have d:=S.disj j i lj l hj hl e
   exact(S.objs j x lj hx hj).mono (cx _) hi (λo q=>hk _ o q (d _ (.inl rfl))) (λo q=>hk _ o q (d _ (.inr rfl))) (λk y c q=>rwL hg q)
 ·by_cases e:j=i
  ·subst e
   rw[hl]at hj;refine cxS hj ?_
   exact .inr hbase
  ·exact rwL (jf (Ne.symm e)) (S.ro j lj hj)
theorem EPo.here(S:Sim C H ρ s)(r:VR ρ s.heap x v):EPo C ρ s H v x s:=⟨ρ,S,.refl,r⟩
theorem EPo.tok(S:Sim C H ρ s)(r:VR ρ s.heap x v):EPo C ρ s H v x {s with toks:=k}:=⟨ρ,S.toks _,.toks _,r⟩
theorem b5.here(S:Sim C H ρ s)(r:VR ρ s.heap x v)(q:Q v H):b5 C ρ s Q x s:=⟨S,.refl,r,q⟩
theorem b5.tok(S:Sim C H ρ s)(r:VR ρ s.heap x v)(q:Q v H):b5 C ρ s Q x {s with toks:=k}:=⟨S.toks _,.toks _,r,q⟩
def eK(v:V):EF:=λq H Q=>Q v H
theorem EV.int{k}{pos}:EV C r env (.Constant (.int i) k pos) (eK (.int i)):=λa a a a a a a S a q=>wpAny_Constant_int (.tok S (.int _ _) q)
theorem EV.none{k}{pos}:EV C r env (.Constant .none k pos) (eK .none):=λa a a a a a a S a q=>wpAny_Constant_none (.here S .none q)
theorem EV.bool{b}{k}{pos}:EV C r env (.Constant (.bool b) k pos) (eK (.bool b)):=λa a a a a a a S a q=>wpAny_Constant_bool (.here S (.bool b) q)
theorem EV.str{k}{pos}:EV C r env (.Constant (.str x) k pos) (eK (.str x)):=λa a a a a a a S a q=>wpAny_Constant_str (.tok S (.str _ _) q)
def Lf{α:Type}(o:aj α)(Q:α->Prop):Prop:=match o with |some p=>Q p |none=>fh
theorem Lf.elim{P:Prop}(h:Lf o Q)(k:∀ p,o=aa p->Q p->P):P:=match o,h,k with
 |some p,h,k=>k p rfl h
theorem Lf.mk{p:α}(e:o=aa p)(q:Q p):Lf o Q:=rwL e q
def Lp(o:aj (V×MH))(Q:EK):Prop:=Lf o λp=>Q p.1 p.2
def eN(x:Str):EF:=λlo H Q=>Lf (lo x) λv=>Q v H
theorem OV.elim{P:Prop}(e:w=aa v)(o:OV ρ h u w)(k:∀ x,u=aa x->VR ρ h x v->P):P:=by
 subst e
 cases u with
 |none=>exact False.elim o
 |some x=>exact k x rfl o
theorem yO{A:gj}{P:Prop}(F:Fm C env ρ s lo)(hx:lo x=aa v)(hk:env.kindOf x=aa .cell\/env.kindOf x=aa .free)(k:∀ c o u,env.cells.lookup x=aa c->s.heap.get? c=aa o->o.data= .cell (aa u)->VR ρ s.heap u v->P):P:=cR (F.cl x hk) λc o u h1 h2 h3 h4=>h4.elim hx λu e r=>k c o u h1 h2 (h3.trans (by exact rwL e rfl)) r
theorem qH(hk:env.kindOf x=aa .local\/env.kindOf x=aa .cell\/env.kindOf x=aa .free)(hc:(x==("__classdict__" :Str))=am)(F:Fm C env ρ s lo)(hx:lo x=aa v)(k:∀ u,VR ρ s.heap u v->Q u s):ax C.M A (loadName env x) Q E s:=by
 refine Or.elim hk (λhk=>(xEA F.ns λm hns hm=>(hm x hk).elim hx λu e r=>wpAny_loadName_local F.fn hk hns e (k u r))) λz12=>Or.elim z12 (λhk=>(yO (A:=A) F hx (.inl hk) λc o u h1 h2 h3 r=>wpAny_loadName_cell F.fn hk h1 ⟨o,h2,h3⟩ (k u r))) λhk=>?_
 ·exact yO (A:=A) F hx (.inr hk) λc o u h1 h2 h3 r=>wpAny_loadName_free F.fn hk h1 ⟨o,h2,h3⟩ (k u r) hc
theorem EV.name{pos}(hk:env.kindOf x=aa .local\/env.kindOf x=aa .cell\/env.kindOf x=aa .free)(hd:(x==("__debug__" :Str))=am)(hc:(x==("__classdict__" :Str))=am):EV C r env (.Name x pos) (eN x):=λa a a a a a a S F q=>q.elim λa hx q=>wpAny_Name (qH hk hc F hx λa rv=>.here S rv q) hd
noncomputable abbrev OpF:=V->V->MH->aj (V×MH)
def OpR(C:Cx)(r:Nat)(op:bx->bx->Sem bx)(g:OpF):Prop:=∀ ⦃A:gj⦄⦃s:aw⦄⦃ρ:ae Lc⦄⦃H:MH⦄⦃a b:bx⦄⦃va vb:V⦄⦃Q:EK⦄,Room r A->Sim C H ρ s->VR ρ s.heap a va->VR ρ s.heap b vb->Lp (g va vb H) Q->
  ax C.M A (op a b) (b5 C ρ s Q) NoE s
theorem OpR.of(h:∀ {A:gj}{s:aw}{ρ:ae Lc}{H:MH}{a b:bx}{va vb v:V}{H':MH},Room r A->Sim C H ρ s->VR ρ s.heap a va->VR ρ s.heap b vb->g va vb H=aa (v,H')-> ax C.M A (op a b) (EPo C ρ s H' v) NoE s):OpR C r op g:=λc c c c c c c c c hr S ra rb q=>q.elim λc e q=>wmN (h hr S ra rb e) λc c p=>p.post q
def aA(g:OpF)(f1 f2:EF):EF:=λlo H Q=>f1 lo H λa H1=>f2 lo H1 λb H2=>Lp (g a b H2) Q
theorem EV.two(h1:EV C r env e1 f1)(h2:EV C r env e2 f2){Q:V->V->MH->Prop}{K:bx->bx->aw->Prop}(hr:Room r A)(S:Sim C H ρ s)(F:Fm C env ρ s lo)(g:f1 lo H λa H1=>f2 lo H1 λb H2=>Q a b H2)(k:∀ {x y s2 ρ2 a b H2},Sim C H2 ρ2 s2->Nx ρ noW s ρ2 s2->VR ρ2 s2.heap x a->VR ρ2 s2.heap y b->Q a b H2->K x y s2):ax C.M A (jl e1 env) (λx s1=>ax C.M A (jl e2 env) (λy s2=>K x y s2) NoE s1) NoE s:=h1.run hr S F g λS1 N1 r1 g=>h2.run hr S1 (F.nx N1) g λS2 N2 r2 q=>k S2 (N1.trans N2) (r1.nx N2) r2 q
theorem EV.binOp(h1:EV C r env e1 f1)(h2:EV C r env e2 f2)(ho:OpR C r (tj op) g):EV C r env (.BinOp e1 op e2 pos) (aA g f1 f2):=λa a a a a a hr S F q=>wpAny_BinOp (EV.two h1 h2 hr S F q λS2 N2 rx ry q=>wmN (ho hr S2 rx ry q) λa a p=>p.from N2)
theorem EV.cmp1(h1:EV C r env e1 f1)(h2:EV C r env e2 f2)(ho:OpR C r (jx op) g)(hm:xu op e2=am):EV C r env (.Compare e1 [op] [e2] pos) (aA g f1 f2):=λa a a a a a hr S F q=>wpAny_Compare1 (EV.two h1 h2 hr S F q λS2 N2 rx ry q=>wmN (ho hr S2 rx ry q) λa a p=>p.from N2) hm
def Ti(v:V):aj Int:=match v with | .int x=>aa x |_=>none
theorem VR.tiE(r:VR ρ h u v)(e:Ti v=aa i):∃ t,u= .int i t:=by
 cases v with
 |int j=>exact cxS e r.inv
 |_=>first |exact aF e |cases e
theorem VR.ti{P:bx->Prop}(r:VR ρ h u v)(e:Ti v=aa i)(k:∀ t,P (.int i t)):P u:=let ⟨t,e⟩:=r.tiE e;e▸k t
def o2(p:Int->Int->fq)(f:Int->Int->V):OpF:=λa b H=>(Ti a).bind λx=>(Ti b).bind λy=>if p x y then aa (f x y,H) else none
set_option tactic.hygienic true in
theorem aGb{a b:V}{P:Prop}(e:o2 p f a b H=aa (v,H'))(k:∀ x y,Ti a=aa x->Ti b=aa y->p x y=ak->v=f x y->H'=H->P):P:=by
 refine xEA (aq.mp e) λx h1 e=>xEA (aq.mp e) λy h2 e=>?_
 split at e
 ·rename_i hp;refine cySP e λzq zr=>?_;subst zq zr;exact k x y h1 h2 hp rfl rfl
 ·exact aF e
def zF:OpF:=o2 (λq q=>ak) λx y=>.int (x+y)
def cP:OpF:=o2 (λq q=>ak) λx y=>.int (x-y)
def lT:OpF:=o2 (λx q=>decide (-1000000000<x/\x<1000000000)) λx y=>.int (x*y)
def tU:OpF:=o2 (λq y=>decide (0<y/\y<1000000000)) λx y=>.int (x/y)
def kV:OpF:=o2 (λq y=>decide (0<y)) λx y=>.int (x%y)
theorem OpR.i2(h:∀ {A:gj}{s:aw}{ρ:ae Lc}{x y:Int}{t u:Tok}{Q:bx->aw->Prop},Room r A->p x y=ak->(∀ z k,VR ρ s.heap z (f x y)->Q z {s with toks:=k})->ax C.M A (op (.int x t) (.int y u)) Q NoE s):OpR C r op (o2 p f):=
 by
  refine OpR.of ?_
  intro A s ρ H a b va vb v H' hr S ra rb e
  refine aGb e λx y h1 h2 hp hv hH=>?_
  subst hv hH
  exact VR.ti (P:=λa=>ax C.M A (op a b) _ _ _) ra h1 λt=>VR.ti (P:=λb=>ax C.M A (op _ b) _ _ _) rb h2 λu=>h hr hp λz k rz=>EPo.tok S rz
theorem OpR.sub:OpR C r (tj .Sub) cP:=OpR.i2 λq q k=>sub_int (k _ _ (.int _ _))
theorem OpR.mul:OpR C r (tj .Mult) lT:=OpR.i2 λq hp k=>by
 have hb:=dx hp
 exact mul_int (k _ _ (.int _ _)) (.of_left (intBits_le_64 (oh (Int.lt_trans (by decide) hb.1)) (Int.lt_trans hb.2 (by decide))))
theorem OpR.div:OpR C r (tj .FloorDiv) tU:=OpR.i2 λq hp k=>by
 have hb:=dx hp
 exact floordiv_int (Int.ne_of_gt hb.1) (k _ _ (rwL (Int.fdiv_eq_ediv_of_nonneg _ (oh hb.1)) (.int _ _))) (.inl (PyProof.noPylong_small (by omega)))
theorem OpR.mod:OpR C r (tj .Mod) kV:=OpR.i2 λq hp k=>by
 have hb:=dx hp
 exact mod_int' (Int.ne_of_gt hb) (k _ _ (rwL (Int.fmod_eq_emod_of_nonneg _ (oh hb)) (.int _ _)))
def bA(f:Int->Int->fq):OpF:=o2 (λq q=>ak) λx y=>.bool (f x y)
theorem OpR.lt:OpR C r (jx .Lt) (bA λx y=>decide (x<y)):=OpR.i2 λq q k=>lt_int (k _ _ (.bool _))
theorem OpR.le:OpR C r (jx .LtE) (bA λx y=>decide (x<=y)):=OpR.i2 λq q k=>le_int (k _ _ (.bool _))
theorem OpR.gt:OpR C r (jx .Gt) (bA λx y=>decide (x>y)):=OpR.i2 λq q k=>gt_int (k _ _ (.bool _))
theorem OpR.ge:OpR C r (jx .GtE) (bA λx y=>decide (x>=y)):=OpR.i2 λq q k=>ge_int (k _ _ (.bool _))
open PySem PySem.W PyProof.Rows PySem.Calls PyProof
def MO.vs:MO->aj (ae V) | .list vs=>aa vs | .ro vs=>aa vs |_=>none
def MO.own:MO->aj (ae V) | .list vs=>aa vs |_=>none
def V.rf:V->aj Nat | .ref i=>aa i |_=>Option.none
def lst(H:MH)(v:V):aj (ae V):=v.rf.bind λi=>H[i]?.bind MO.vs
def own(H:MH)(v:V):aj (ae V):=v.rf.bind λi=>H[i]?.bind MO.own
theorem VR.toRef(r:VR ρ h u v)(e:v.rf=aa i):∃ l,v= .ref i/\u= .ref l.a/\ρ[i]? =aa l:=by
 cases v with
 |ref n=>exact cxS e (xEA r.inv λl h1 h2=>⟨l,rfl,h1,h2⟩)
 |_=>first |exact aF e |cases e
theorem lst_mo{i:Nat}(e:H[i]?.bind MO.vs=aa vs):H[i]? =aa (.list vs)\/H[i]? =aa (.ro vs):=by
 refine xEA (aq.mp e) λm h1 h2=>?_
 cases m with
 |list ws=>exact cxS h2 (.inl h1)
 |ro ws=>exact cxS h2 (.inr h1)
 |_=>exact aF h2
theorem j6{i:Nat}(e:H[i]?.bind MO.own=aa vs):H[i]? =aa (.list vs):=by
 refine xEA (aq.mp e) λm h1 h2=>?_
 cases m with
 |list ws=>exact cxS h2 h1
 |_=>exact aF h2
theorem cJ(S:Sim C H ρ s)(r:VR ρ s.heap u v)(e:lst H v=aa vs):∃ a xs,u= .ref a/\s.heap.IsList a xs/\VRs ρ s.heap xs.toList vs:=by
 refine xEA (aq.mp e) λi hi e=>dY (r.toRef hi) λl hv hu g=>Or.elim (lst_mo (i:=i) e) (λh=>(j4 (S.objs i _ l h g) λb b xs k hx rs=>⟨_,xs,hu,⟨_,hx,rfl,_,rfl⟩,rs⟩)) λh=>?_
 ·exact qC (S.objs i _ l h g) λb b xs z13 rs=>xEA z13 λo hx q=>⟨_,xs,hu,⟨o,S.keep _ _ hx,q⟩,rs⟩
structure jN(H:MH)(ρ:ae Lc)(s:aw)(i:Nat)(l:Lc)(vs:ae V)(xs:om bx)(n:Nat):Prop where
 g:ρ[i]? =aa l
 d:l.d=l.a
 gn:l.g=none
 h:H[i]? =aa (.list vs)
 x:IsL s.heap l.a xs n
 r:VRs ρ s.heap xs.toList vs
theorem iD(S:Sim C H ρ s)(g:ρ[i]? =aa l)(h:H[i]? =aa (.list vs)):∃ xs n,jN H ρ s i l vs xs n:=let ⟨h1,h2,xs,k,hx,rs⟩:=S.objs i _ l h g;⟨xs,k,g,h1,h2,h,hx,rs⟩
theorem own_is(S:Sim C H ρ s)(r:VR ρ s.heap u v)(e:own H v=aa vs):∃ i l xs n,v= .ref i/\u= .ref l.a/\jN H ρ s i l vs xs n:=xEA (aq.mp e) λi hi e=>dY (r.toRef hi) λl hv hu g=>xEE (iD S g (j6 (i:=i) e)) λxs n h=>⟨i,l,xs,n,hv,hu,h⟩
theorem VRs.sz{xs:om bx}(r:VRs ρ h xs.toList vs):xs.size=vs.length:=rwR r.length Array.length_toList.symm
def aCh:V->aj mh | .none=>aa .none | .bool b=>aa (.bool b) | .int i=>aa (.int i) | .str s=>aa (.str s) |_=>none
def rd(H:MH):Nat->V->aj mh
 |0,v=>aCh v
 |n+1,.tup vs=>(vs.mapM (rd H n)).map .tuple
 |n+1,.ref i=>(lst H (.ref i)).bind λvs=>(vs.mapM (rd H n)).map .list
 |_+1,v=>aCh v
theorem fZ(r:VR ρ h u v)(e:aCh v=aa d):∃ as,xv h u d as:=by
 cases v with
 |none=>refine cxS e ?_;cases(show u= .none from r.inv);exact⟨_,.none⟩
 |bool b=>refine cxS e ?_;cases(show u= .bool b from r.inv);exact⟨_,.bool b⟩
 |int i=>exact cxS e (xE r.inv λt z14=>rwL z14 ⟨_,.int i t⟩)
 |str x=>exact cxS e (xE r.inv λt z15=>rwL z15 ⟨_,.str x t⟩)
 |_=>first |exact aF e |cases e
theorem mD(ih:∀ {u:bx}{v:V}{d:mh},VR ρ h u v->rd H n v=aa d->∃ as,xv h u d as)(r:VRs ρ h us vs):∀ {ds:ae mh},vs.mapM (rd H n)=aa ds->∃ as,ReadsAll h us ds as:=r.ind (P:=λus vs=>∀ {ds:ae mh},vs.mapM (rd H n)=aa ds->∃ as,ReadsAll h us ds as) (λe=>cxS e ⟨_,.nil⟩) λa q ih2 ds e=>by
  simp only[xj,yj,aq,pure_def,Option.some.injEq]at e
  refine aAd e λd h1 ds h2 z16=>?_;clear e;subst z16
  exact xE (ih a h1) λas r1=>xE (ih2 h2) λbs r2=>⟨_,.cons r1 r2⟩
theorem g9(S:Sim C H ρ s):∀ (n:Nat){u:bx}{v:V}{d:mh},VR ρ s.heap u v->rd H n v=aa d->∃ as,xv s.heap u d as
 |0,_,_,_,r,e=>fZ r e
 |n+1,u,v,d,r,e=>by
  cases r with
  |tup g rs=>
   exact xEA (dy.mp e) λds hm z17=>rwR z17 (xE (mD (g9 S n) rs hm) λas r2=>⟨_,.tuple g rfl rfl r2⟩)
  |ref g=>
   refine xEA (aq.mp e) λvs hl e=>xEA (dy.mp e) λds hm z18=>rwR z18 (cC (cJ S (.ref g) hl) λa xs hu z19 rs=>?_);obtain⟨o,hx,hc,k,hd⟩:=z19
   refine xE (mD (g9 S n) rs hm) λas r2=>?_
   cases hu
   exact⟨_,.list hx hc hd r2⟩
  |none=>exact fZ (ρ:=ρ) .none e
  |bool b=>exact fZ (ρ:=ρ) (.bool b) e
  |int i t=>exact fZ (ρ:=ρ) (.int i t) e
  |str x t=>exact fZ (ρ:=ρ) (.str x t) e
  |_=>first |exact aF e |cases e
def eqD:Nat:=8
def eqv(H:MH)(a b:V):aj fq:=(rd H eqD a).bind λda=>(rd H eqD b).bind λdb=>if PySem.SeqAt.shaped da && PySem.SeqAt.shaped db then aa (PyData.eqv da db) else none
def bG(f:fq->fq):OpF:=λa b H=>(eqv H a b).map λt=>(.bool (f t),H)
theorem Room.units(h:Room r A):A.units+64<cLine:=by have:=h.2.2;exact(A1 this:A.units+64<9900)
set_option tactic.hygienic true in
theorem eqv_ok{a b:bx}{P:Prop}(S:Sim C H ρ s)(ra:VR ρ s.heap a va)(rb:VR ρ s.heap b vb)(e:eqv H va vb=aa t)(k:∀ da db as bs,xv s.heap a da as->xv s.heap b db bs->PySem.SeqAt.shaped da=ak->PySem.SeqAt.shaped db=ak->t=PyData.eqv da db->P):P:=by
 refine xEA (aq.mp e) λda h1 e=>xEA (aq.mp e) λdb h2 e=>xE (g9 S _ ra h1) λas r1=>xE (g9 S _ rb h2) λbs r2=>?_
 split at e
 ·rename_i hs
  exact k da db as bs r1 r2 (dp.mp hs).1 (dp.mp hs).2 (Option.some.inj e).symm
 ·first |exact aF e |cases e
theorem OpR.eqB(h:∀ {A:gj}{s:aw}{a b:bx}{da db:mh}{as bs:ae dv}{Q:bx->aw->Prop},Room r A->xv s.heap a da as->xv s.heap b db bs->PySem.SeqAt.shaped da=ak->PySem.SeqAt.shaped db=ak-> Q (.bool (f (PyData.eqv da db))) s->ax C.M A (op a b) Q NoE s):OpR C r op (bG f):=by
 refine OpR.of ?_
 intro A s ρ H a b va vb v H' hr S ra rb e
 exact xEA (dy.mp e) λt e1 e2=>eqv_ok S ra rb e1 λda db as bs r1 r2 s1 s2 ht=>h hr r1 r2 s1 s2 (cxP e2 (rwR ht (.here S (.bool _))))
theorem OpR.eq:OpR C r (jx .Eq) (bG id):=OpR.eqB λhr r1 r2 s1 s2 q=>eq_dataH r1 r2 s1 s2 hr.units q
theorem OpR.ne:OpR C r (jx .NotEq) (bG not):=OpR.eqB λhr r1 r2 s1 s2 q=>ne_dataH r1 r2 s1 s2 hr.units q
def tr(v:V)(H:MH):aj fq:=match v with
 | .none=>aa am
 | .bool b=>aa b
 | .int i=>aa (i != 0)
 | .str x=>if x.length<1000000 then aa ((x.length:Int) != 0) else none
 | .ref i=>(lst H (.ref i)).bind λvs=>if vs.length<1000000 then aa (!vs.isEmpty) else none
 |_=>none
noncomputable abbrev TF:=Lo->MH->(fq->MH->Prop)->Prop
inductive mR(C:Cx)(ρ:ae Lc)(s:aw)(Q:fq->MH->Prop)(b:fq)(s':aw):Prop
 |mk {ρ':ae Lc}{H':MH} (S:Sim C H' ρ' s') (N:Nx ρ noW s ρ' s') (q:Q b H'):mR C ρ s Q b s'
def TV(C:Cx)(r:Nat)(env:Env)(e:Expr)(f:TF):Prop:=∀ ⦃A:gj⦄⦃s:aw⦄⦃ρ:ae Lc⦄⦃H:MH⦄⦃lo:Lo⦄⦃Q:fq->MH->Prop⦄,Room r A->Sim C H ρ s->Fm C env ρ s lo->f lo H Q->
  ax C.M A (isTrue e env (jl e env)) (mR C ρ s Q) NoE s
theorem TV.run(h:TV C r env e f){K:fq->aw->Prop}(hr:Room r A)(S:Sim C H ρ s)(F:Fm C env ρ s lo)(q:f lo H Q)(k:∀ {b s' ρ' H'},Sim C H' ρ' s'->Nx ρ noW s ρ' s'->Q b H'->K b s'):ax C.M A (isTrue e env (jl e env)) K E s:=wmN (h hr S F q) λ_ _ ⟨S,N,q⟩=>k S N q
theorem mR.from{b:fq}(N:Nx ρ noW s ρ1 s1)(p:mR C ρ1 s1 Q b s'):mR C ρ s Q b s':=let ⟨S,N',q⟩:=p;⟨S,N.trans N',q⟩
theorem yY{b:fq}{K:fq->aw->Prop}(S:Sim C H ρ s)(rv:VR ρ s.heap u v)(e:tr v H=aa b)(k:∀ n,K b {s with toks:=n}):ax C.M A (truthy u) K E s:=by
 cases v with
 |none=>refine cyS e λzq=>?_;subst zq;cases(show u= .none from rv.inv);exact PyProof.Rows.truthy_none (k s.toks)
 |bool b'=>cases e;cases(show u= .bool b from rv.inv);exact wpAny_truthy_bool (k s.toks)
 |int i=>refine cyS e λzq=>?_;subst zq;exact xE rv.inv λt z20=>rwL z20 (truthy_int (k s.toks))
 |str x=>
  refine xE rv.inv λt z21=>rwL z21 ?_
  have e:(if x.length<1000000 then aa ((x.length:Int) != 0) else none)=aa b:=e
  by_cases hl:x.length<1000000
  ·rw[bo hl]at e
   have e:=Option.some.inj e
   subst e
   exact PySem.P.truthy_str (by omega) (k _)
  ·rw[bc hl]at e;exact aF e
 |ref g=>
  refine xEA (aq.mp e) λvs hl e=>cC (cJ S rv hl) λa xs z22 h2 h3=>rwL z22 ?_
  by_cases hlen:vs.length<1000000
  ·rw[bo hlen]at e
   have hsz:=h3.sz
   refine wpAny_truthy_list h2 (by omega) ?_
   have hb:(! xs.isEmpty)=b:=by
    refine rwR (Option.some.inj e) ?_
    unfold Array.isEmpty
    refine rwL hsz ?_
    cases vs<;>rfl
   exact hb▸k _
  ·rw[bc hlen]at e;exact aF e
 |_=>first |exact aF e |cases e
def tE(f:EF):TF:=λlo H Q=>f lo H λv H1=>Lf (tr v H1) λb=>Q b H1
theorem mA(S:Sim C H ρ1 s1)(N:Nx ρ noW s ρ1 s1)(rv:VR ρ1 s1.heap u v)(e:Lf (tr v H) λb=>Q b H):ax C.M A (truthy u) (mR C ρ s Q) E s1:=e.elim λb e q=>yY S rv e λa=>⟨S.toks _,N.trans (.toks _),q⟩
theorem TV.val(h:EV C r env e f)(he:isTrue e env (jl e env)=(do let v<-jl e env;vu e.pos;vv [v] (truthy v))):TV C r env e (tE f):=λa a a a a a hr S F g=>wpAny_isTrue_value (h.run hr S F g λS1 N1 r1 q=>mA S1 N1 r1 q) he
def y6(f:TF):TF:=λlo H Q=>f lo H λb H'=>Q (!b) H'
theorem TV.not(h:TV C r env e f):TV C r env (.UnaryOp .Not e pos) (y6 f):=λa a a a a a hr S F g=>wpAny_isTrue_Not (h.run hr S F g λS N q=>⟨S,N,q⟩)
theorem TV.cmp1(h1:EV C r env e1 f1)(h2:EV C r env e2 f2)(ho:OpR C r (jx op) g)(hm:xu op e2=am):TV C r env (.Compare e1 [op] [e2] pos) (tE (aA g f1 f2)):=λa a a a a a hr S F q=>wpAny_isTrue_Compare1 (EV.two h1 h2 hr S F q λS2 N2 rx ry q=>b5.run (ho hr S2 rx ry q) λS3 N3 r3 q=>mA S3 (N2.trans N3) r3 q) hm
def aZ(f g:TF):TF:=λlo H Q=>f lo H λb H1=>bif b then g lo H1 Q else Q am H1
def tOr(f g:TF):TF:=λlo H Q=>f lo H λb H1=>bif b then Q ak H1 else g lo H1 Q
def tK(b:fq):TF:=λq H Q=>Q b H
def jU(C:Cx)(r:Nat)(env:Env)(op:BoolOp)(es:ae Expr)(f:TF):Prop:=∀ ⦃A:gj⦄⦃s:aw⦄⦃ρ:ae Lc⦄⦃H:MH⦄⦃lo:Lo⦄⦃Q:fq->MH->Prop⦄,Room r A->Sim C H ρ s->Fm C env ρ s lo->f lo H Q->
  ax C.M A (allTrue op es env) (mR C ρ s Q) NoE s
theorem jU.and_nil:jU C r env .And [] (tK ak):=λa a a a a a a S a q=>wpAny_allTrue_And_nil ⟨S,.refl,q⟩
theorem jU.or_nil:jU C r env .Or [] (tK am):=λa a a a a a a S a q=>wpAny_allTrue_Or_nil ⟨S,.refl,q⟩
theorem jU.and_cons(h:TV C r env e f)(hs:jU C r env .And es g):jU C r env .And (e::es) (aZ f g):=λa a a a a a hr S F q=>wpAny_allTrue_And_cons (h.run hr S F q λ{b a a a} S1 N1 q=>match b,q with
  |true,q=>wmN (hs hr S1 (F.nx N1) q) λa a p=>p.from N1
  |false,q=>⟨S1,N1,q⟩)
theorem jU.or_cons(h:TV C r env e f)(hs:jU C r env .Or es g):jU C r env .Or (e::es) (tOr f g):=λa a a a a a hr S F q=>wpAny_allTrue_Or_cons (h.run hr S F q λ{b a a a} S1 N1 q=>match b,q with
  |false,q=>wmN (hs hr S1 (F.nx N1) q) λa a p=>p.from N1
  |true,q=>⟨S1,N1,q⟩)
theorem TV.boolOp(h:jU C r env op es f):TV C r env (.BoolOp op es pos) f:=λq q q q q q hr S F e=>wpAny_isTrue_BoolOp (h hr S F e)
def eIf(t:TF)(f g:EF):EF:=λlo H Q=>t lo H λb H1=>bif b then f lo H1 Q else g lo H1 Q
theorem EV.ifExp(ht:TV C r env t ft)(h1:EV C r env e1 f1)(h2:EV C r env e2 f2):EV C r env (.IfExp t e1 e2 pos) (eIf ft f1 f2):=λa a a a a a hr S F q=>wpAny_IfExp (ht.run hr S F q λ{b a a a} S1 N1 q=>match b,q with
  |true,q=>wmN (h1 hr S1 (F.nx N1) q) λa a p=>p.from N1
  |false,q=>wmN (h2 hr S1 (F.nx N1) q) λa a p=>p.from N1)
def dM(f:EF):EF:=λlo H Q=>f lo H λv H1=>Lf (Ti v) λi=>Q (.int (-i)) H1
theorem EV.neg(h:EV C r env e f):EV C r env (.UnaryOp .USub e pos) (dM f):=λa a a a a a hr S F q=>wpAny_UnaryOp (h.run hr S F q λ{x s' a a a} S1 N1 r1 q=>q.elim λi e q=>VR.ti (P:=λx=>ax C.M _ (unaryOp .USub x) _ _ s') r1 e λt=>neg_int ⟨S1.toks _,N1.trans (.toks _),.int _ _,q⟩)
noncomputable abbrev EFs:=Lo->MH->(ae V->MH->Prop)->Prop
def esN:EFs:=λq H Q=>Q [] H
def esC(f:EF)(g:EFs):EFs:=λlo H Q=>f lo H λv H1=>g lo H1 λvs H2=>Q (v::vs) H2
inductive wU(C:Cx)(ρ:ae Lc)(s:aw)(Q:ae V->MH->Prop)(xs:ae bx)(s':aw):Prop
 |mk {ρ':ae Lc}{vs:ae V}{H':MH} (S:Sim C H' ρ' s') (N:Nx ρ noW s ρ' s') (r:VRs ρ' s'.heap xs vs) (q:Q vs H'):wU C ρ s Q xs s'
def EVs(C:Cx)(r:Nat)(env:Env)(es:ae Expr)(f:EFs):Prop:=∀ ⦃A:gj⦄⦃s:aw⦄⦃ρ:ae Lc⦄⦃H:MH⦄⦃lo:Lo⦄⦃Q:ae V->MH->Prop⦄⦃pos:Pos⦄,Room r A->Sim C H ρ s->Fm C env ρ s lo->f lo H Q->
  ax C.M A (spliced (mq pos (eh es env))) (wU C ρ s Q) NoE s
theorem EVs.nil:EVs C r env [] esN:=λa a a a a a a a S a q=>wg ⟨S,.refl,.nil,q⟩
theorem EVs.cons(h:EV C r env e f)(hs:EVs C r env es g)(he:eh (e::es) env=(am,jl e env)::eh es env):EVs C r env (e::es) (esC f g):=λa a a a a a a hr S F q=>su (h.run hr S F q λS1 N1 r1 q=>wmN (hs hr S1 (F.nx N1) q) λ_ _ ⟨S2,N2,r2,q⟩=>⟨S2,N1.trans N2,.cons (r1.nx N2) r2,q⟩) he
def bE(g:EFs):EF:=λlo H Q=>g lo H λvs H1=>vs.length<100/\Q (.tup vs) H1
theorem EV.tuple(h:EVs C r env es g):EV C r env (.Tuple es k pos) (bE g):=λa a a a a a hr S F q=>wpAny_Tuple (wmN (h hr S F q) λxs s1 ⟨S1,N1,r1,hl,q⟩=>⟨rwL r1.length (rwL eu (A2 hl)),S1.push _,N1.trans (.push _),.tup (Heap.get?_push_size _ rfl) (by simpa using r1.mono (cx _) (i7 _ _)),q⟩)
def mkL(vs:ae V)(H:MH):aj (V×MH):=if vs.length<1000000 then aa (.ref H.length,H++[.list vs]) else none
set_option tactic.hygienic true in
theorem kZ{P:Prop}(e:mkL vs H=aa p)(k:vs.length<1000000->p=(.ref H.length,H++[.list vs])->P):P:=by
 unfold mkL at e
 split at e
 ·rename_i h;exact k h (Option.some.inj e).symm
 ·first |exact aF e |cases e
def bU(g:EFs):EF:=λlo H Q=>g lo H λvs H1=>Lp (mkL vs H1) Q
theorem Sim.newList(S:Sim C H ρ s)(hr:VRs ρ s.heap xs.toList vs):EPo C ρ s (H++[.list vs]) (.ref H.length) (.ref s.heap.objs.size) {s with heap:=s.heap.push {cls:=.type "list",data:=.seq xs}}:=by
 refine⟨ρ++[⟨s.heap.objs.size,s.heap.objs.size,none⟩],S.alloc {cls:=.type "list",data:=.seq xs} (.list vs) ⟨rfl,rfl,xs,0,Heap.get?_push_size _ rfl,hr.mono (ou _ _) (i7 _ _)⟩,.alloc _,?_⟩
 exact VR.ref (l:=⟨s.heap.objs.size,s.heap.objs.size,none⟩) (by refine rwR S.len ?_;simp)
theorem EV.list(h:EVs C r env es g):EV C r env (.List es pos) (bU g):=λa a a a a a hr S F q=>wpAny_List (wmN (h hr S F q) λxs s1 ⟨S1,N1,r1,q⟩=>q.elim λp e q=>kZ e λhl e=>by
  subst e
  exact⟨rwL r1.length (rwL eu (A3 hl)),((S1.newList (by simpa using r1)).from N1).post q⟩)
def aH:OpF:=λa b H=>match Ti a,Ti b with
 |some x,aa y=>aa (.int (x+y),H)
 |_,_=>(lst H a).bind λxs=>(lst H b).bind λys=>mkL (xs++ys) H
set_option tactic.hygienic true in
theorem OpR.add:OpR C r (tj .Add) aH:=by
 refine OpR.of ?_
 intro A s ρ H a b va vb v H' hr S ra rb e
 unfold aH at e
 split at e
 ·rename_i x y h1 h2
  exact cxSP e (VR.ti (P:=λa=>ax C.M A (tj .Add a b) _ _ _) ra h1 λt=>VR.ti (P:=λb=>ax C.M A (tj .Add _ b) _ _ _) rb h2 λu=>add_int (.tok S (.int _ _)))
 ·refine xEA (aq.mp e) λxs h1 e=>xEA (aq.mp e) λys h2 e=>kZ e λhl e=>?_
  cases e
  refine cC (cJ S ra h1) λi us z23 o1 r1=>rwL z23 ?_
  refine cC (cJ S rb h2) λj us' z24 o2 r2=>rwL z24 ?_
  have e1:=r1.sz;have e2:=r2.sz
  rw[af]at hl
  obtain⟨⟨cls,dd,data,sl⟩,ho,hc,n,hd⟩:=o1
  obtain⟨⟨cls2,dd2,data2,sl2⟩,ho2,hc2,n2,hd2⟩:=o2
  subst hc;subst hd;subst hc2;subst hd2
  exact concat_meets ⟨_,ho,rfl⟩ ⟨_,ho2,rfl⟩ noFill_list_add seq_list_add PySem.F.slot_list_add PySem.F.entry_list_add (PySem.F.args_list_add_2 _ _) (list_addW i j us us' n n2 dd dd2 sl sl2 (rwL eu (A4 hl e1 e2))) ⟨ho,ho2,S.newList (rwL Array.toList_append (r1.append r2))⟩
inductive Fl where
 |next |brk |cont |ret (v:V)
inductive FlR(ρ:ae Lc)(h:pa):zd->Fl->Prop
 |next:FlR ρ h .next .next
 |brk:FlR ρ h .brk .brk
 |cont:FlR ρ h .cont .cont
 |ret {u v} (r:VR ρ h u v):FlR ρ h (.ret u) (.ret v)
noncomputable abbrev SK:=Fl->Lo->MH->Prop
variable{K:SK}
noncomputable abbrev SF:=Lo->MH->SK->Prop
inductive mS(C:Cx)(env:Env)(ρ:ae Lc)(s:aw)(Q:SK)(f:zd)(s':aw):Prop
 |mk {ρ':ae Lc}{fl:Fl}{lo':Lo}{H':MH} (S:Sim C H' ρ' s') (N:Nx ρ (Wr env) s ρ' s') (F:Fm C env ρ' s' lo') (r:FlR ρ' s'.heap f fl) (q:Q fl lo' H'):mS C env ρ s Q f s'
def SV(C:Cx)(r:Nat)(env:Env)(st:jz)(f:SF):Prop:=∀ ⦃A:gj⦄⦃s:aw⦄⦃ρ:ae Lc⦄⦃H:MH⦄⦃lo:Lo⦄⦃Q:SK⦄,Room r A->Sim C H ρ s->Fm C env ρ s lo->f lo H Q->
  ax C.M A (exec st env) (mS C env ρ s Q) NoE s
def SVs(C:Cx)(r:Nat)(env:Env)(st:ae jz)(f:SF):Prop:=∀ ⦃A:gj⦄⦃s:aw⦄⦃ρ:ae Lc⦄⦃H:MH⦄⦃lo:Lo⦄⦃Q:SK⦄,Room r A->Sim C H ρ s->Fm C env ρ s lo->f lo H Q->
  ax C.M A (pc st env) (mS C env ρ s Q) NoE s
theorem mS.from(N:Nx ρ (Wr env) s ρ1 s1)(p:mS C env ρ1 s1 Q f s'):mS C env ρ s Q f s':=let ⟨S,N',F,r,q⟩:=p;⟨S,N.trans N',F,r,q⟩
theorem Nx.wr(N:Nx ρ noW s ρ' s'):Nx ρ W s ρ' s':=N.weaken λa q=>q.elim
def upd(lo:Lo)(x:Str)(v:V):Lo:=λy=>if y=x then aa v else lo y
theorem dQ{a:dv}(hs:Heap.SameBut a h h')(ho:h.get? a=aa o)(hi: ¬aX o):Imm h h':=λb x e i=>by
 by_cases q:b=a
 ·subst q;rw[ho]at e;refine cyS e λzq=>?_;subst zq;exact bw i hi
 ·exact rwL (hs.2 b q) e
theorem Sim.side{a:dv}(S:Sim C H ρ s)(hs:Heap.SameBut a s.heap h')(ho:s.heap.get? a=aa o)(hi: ¬aX o)(hown: ¬Own ρ a)(hb:C.base.heap.get? a=none):Sim C H ρ {s with heap:=h',toks:=k}:=by
 refine S.same (λb x e q=>?_) (dQ hs ho hi) (λc c e=>e) rfl S.bare
 have:b≠a:=by
  rintro rfl
  refine Or.elim q (λq=>(hown q)) λq=>?_
  ·rw[hb]at q;cases q
 exact(rwL (hs.2 b this) e:h'.get? b=aa x)
theorem Nx.side{a:dv}(hs:Heap.SameBut a s.heap h')(ho:s.heap.get? a=aa o)(hi: ¬aX o)(hw:W a)(ha:∃ o',h'.get? a=aa o'):Nx ρ W s ρ {s with heap:=h',toks:=k}:=⟨cx _,λl hl=>by simp at hl,λb x e c hb=>by
  have:b≠a:=by rintro rfl;exact hb hw
  exact(rwL (hs.2 b this) e:h'.get? b=aa x),dQ hs ho hi,λb x e=>by
  by_cases q:b=a
  ·exact rwL q ha
  ·exact⟨x,(rwL (hs.2 b q) e:h'.get? b=aa x)⟩⟩
inductive eS(C:Cx)(env:Env)(W:dv->Prop)(ρ:ae Lc)(s:aw)(Q:Lo->MH->Prop)(u:wq)(s':aw):Prop
 |mk {ρ':ae Lc}{lo':Lo}{H':MH} (S:Sim C H' ρ' s') (N:Nx ρ W s ρ' s') (F:Fm C env ρ' s' lo') (q:Q lo' H'):eS C env W ρ s Q u s'
theorem eS.from(N:Nx ρ W s ρ1 s1)(p:eS C env W ρ1 s1 Q x s'):eS C env W ρ s Q x s':=let ⟨S,N',F,q⟩:=p;⟨S,N.trans N',F,q⟩
theorem eS.run{α:Type}{K:wq->aw->Prop}(h:ax M A t (eS C env W ρ s Q) NoE s)(k:∀ {x s' ρ' lo' H'},Sim C H' ρ' s'->Nx ρ W s ρ' s'->Fm C env ρ' s' lo'->Q lo' H'->K x s'):ax M A t K E s:=wmN h λ_ _ ⟨S,N,F,q⟩=>k S N F q
theorem gZ{K:wq->aw->Prop}(S:Sim C H ρ s)(F:Fm C env ρ s lo)(rv:VR ρ s.heap u v)(hk:(env.kindOf x=aa .local/\W env.locals)\/(env.kindOf x=aa .cell/\∀ c,env.cells.lookup x=aa c->W c))(k:∀ s',Sim C H ρ s'->Nx ρ W s ρ s'->Fm C env ρ s' (upd lo x v)->K () s'):ax C.M A (storeName env x u) K E s:=by
 rcases hk with ⟨hk,hW⟩ |⟨hk,hW⟩
 ·refine xEA F.ns λm hns hm=>gV (id hns) λo es ep ho hd hr=>?_
  have hi: ¬aX o:=by unfold aX;exact rwL hd id
  refine wpAny_storeName_local hk hns (λh' hn hs=>?_) (by refine rwL F.fn ?_;rfl)
  have fw:=F.own _ (.inl rfl)
  have im:=dQ hs ho hi
  refine k _ (S.side hs ho hi fw.1 fw.2) (.side hs ho hi hW (let ⟨o2,_,_,g,_⟩:=hn;⟨o2,g⟩)) ⟨F.fn,F.gl,F.bi,⟨_,hn,λy hy=>?_⟩,λy hy=>?_,F.own,F.dis,F.inj,λb hb=>?_⟩
  ·by_cases q:y=x
   ·simp only[upd,bo q];exact rv.mono (cx _) im
   ·simp only[upd,bc q];exact(hm y hy).mono (cx _) im
  ·refine cR (F.cl y hy) λc o' u' h1 h2 h3 h4=>?_
   have q:y≠x:=by rintro rfl;rw[hk]at hy;refine Or.elim hy (λhy=>?_) λhy=>?_<;>cases hy
   exact⟨c,o',u',h1,(hs.2 c (F.dis y c h1)).trans h2,h3,by rw[upd,bc q];exact h4.mono (cx _) im⟩
  ·by_cases q:b=env.locals
   ·exact iQ hn λo2 a a g a=>rwL q ⟨o2,g⟩
   ·exact xE (F.alv b hb) λo2 g=>⟨o2,(hs.2 b q).trans g⟩
 ·refine cR (F.cl x (.inl hk)) λc o u' h1 h2 h3 h4=>?_
  have hi: ¬aX o:=by unfold aX;exact rwL h3 id
  refine wpAny_storeName_cell F.fn hk h1 ⟨o,h2,h3⟩ (λh' hc hs=>?_)
  have fw:=F.own c (.inr ⟨x,h1⟩)
  have im:=dQ hs h2 hi
  refine k _ (S.side (k:=s.toks) hs h2 hi fw.1 fw.2) (.side (k:=s.toks) hs h2 hi (hW c h1) (let ⟨o2,g,_⟩:=hc;⟨o2,g⟩)) ⟨F.fn,F.gl,F.bi,?_,λy hy=>?_,F.own,F.dis,F.inj,λb hb=>?_⟩
  ·refine xEA F.ns λm hns hm=>⟨m,hns.sameBut hs (Ne.symm (F.dis x c h1)),λy hy=>?_⟩
   have q:y≠x:=by rintro rfl;rw[hk]at hy;cases hy
   rw[upd,bc q];exact(hm y hy).mono (cx _) im
  ·by_cases q:y=x
   ·exact xEA hc λo2 g1 g2=>⟨c,o2,aa u,q▸h1,g1,g2,by rw[upd,bo q];exact rv.mono (cx _) im⟩
   ·exact cR (F.cl y hy) λc' o' u'' g1 g2 g3 g4=>⟨c',o',u'',g1,(hs.2 c' (λz=>q (F.inj y x c' g1 (z▸h1)))).trans g2,g3,by rw[upd,bc q];exact g4.mono (cx _) im⟩
  ·by_cases q:b=c
   ·exact xEA hc λo2 g a=>rwL q ⟨o2,g⟩
   ·exact xE (F.alv b hb) λo2 g=>⟨o2,(hs.2 b q).trans g⟩
theorem s9(hk:env.kindOf x=aa .local\/env.kindOf x=aa .cell):(env.kindOf x=aa .local/\Wr env env.locals)\/(env.kindOf x=aa .cell/\∀ c,env.cells.lookup x=aa c->Wr env c):=hk.imp (λh=>⟨h,.inl rfl⟩) λh=>⟨h,λq e=>.inr ⟨_,e⟩⟩
theorem aA1(S:Sim C H ρ s)(F:Fm C env ρ s lo)(rv:VR ρ s.heap u v)(hk:env.kindOf x=aa .local\/env.kindOf x=aa .cell)(q:Q (upd lo x v) H):ax C.M A (storeName env x u) (eS C env (Wr env) ρ s Q) NoE s:=gZ S F rv (s9 hk) λa S N F=>⟨S,N,F,q⟩
def sK(fl:Fl):SF:=λlo H Q=>Q fl lo H
theorem SV.pass{pos}:SV C r env (.Pass pos) (sK .next):=λa a a a a a a S F q=>wpAny_Pass ⟨S,.refl,F,.next,q⟩
theorem SV.brk{pos}:SV C r env (.Break pos) (sK .brk):=λa a a a a a a S F q=>wpAny_Break ⟨S,.refl,F,.brk,q⟩
theorem SV.cont{pos}:SV C r env (.Continue pos) (sK .cont):=λa a a a a a a S F q=>wpAny_Continue ⟨S,.refl,F,.cont,q⟩
def i6(f:EF):SF:=λlo H Q=>f lo H λv H1=>Q (.ret v) lo H1
theorem SV.ret{pos}(h:EV C r env e f):SV C r env (.Return (aa e) pos) (i6 f):=λa a a a a a hr S F q=>wpAny_Return_some (h.run hr S F q λS1 N1 r1 q=>⟨S1,N1.wr,F.nx N1,.ret r1,q⟩)
theorem SV.ret0{pos}:SV C r env (.Return none pos) (sK (.ret .none)):=λa a a a a a a S F q=>wpAny_Return_none ⟨S,.refl,F,.ret .none,q⟩
def aY(x:Str)(f:EF):SF:=λlo H Q=>f lo H λv H1=>Q .next (upd lo x v) H1
theorem SV.assign{pos}{pos'}(h:EV C r env e f)(hk:env.kindOf x=aa .local\/env.kindOf x=aa .cell)(hs:uf e (aa (.Name x pos')) pos.line env=pure am):SV C r env (.Assign [.Name x pos'] e pos) (aY x f):=λa a a a a a hr S F q=>wpAny_Assign_Name (h.run hr S F q λS1 N1 r1 q=>gZ S1 (F.nx N1) r1 (s9 hk) λa S2 N2 F2=>⟨S2,N1.wr.trans N2,F2,.next,q⟩) hs
def sIf(t:TF)(f g:SF):SF:=λlo H Q=>t lo H λb H1=>bif b then f lo H1 Q else g lo H1 Q
theorem SV.ite{pos}(ht:TV C r env t ft)(h1:SVs C r env b1 f)(h2:SVs C r env b2 g):SV C r env (.If t b1 b2 pos) (sIf ft f g):=λa a a a a a hr S F q=>wpAny_If (ht.run hr S F q λ{b a a a} S1 N1 q=>match b,q with
  |true,q=>wmN (h1 hr S1 (F.nx N1) q) λa a p=>p.from N1.wr
  |false,q=>wmN (h2 hr S1 (F.nx N1) q) λa a p=>p.from N1.wr)
def bN(g:SF)(Q:SK):SK:=λfl lo H=>match fl with | .next=>g lo H Q |fl=>Q fl lo H
def aB(f g:SF):SF:=λlo H Q=>f lo H (bN g Q)
theorem SVs.nil:SVs C r env [] (sK .next):=λa a a a a a a S F q=>wh ⟨S,.refl,F,.next,q⟩
theorem SVs.cons{st:jz}(h:SV C r env st f)(hs:SVs C r env rest g):SVs C r env (st::rest) (aB f g):=by
 intro A s ρ H lo Q hr S F q
 rw[execs_cons]
 refine zzB (wmN (h hr S F q) λfw s1 p=>?_)
 obtain⟨S1,N1,F1,r1,q⟩:=p
 cases r1 with
 |next=>exact wmN (hs hr S1 F1 q) λa a p=>p.from N1
 |brk=>exact zzP ⟨S1,N1,F1,.brk,q⟩
 |cont=>exact zzP ⟨S1,N1,F1,.cont,q⟩
 |ret r1=>exact zzP ⟨S1,N1,F1,.ret r1,q⟩
theorem Sim.ext(S:Sim C H ρ s)(hk:∀ b o,s.heap.get? b=aa o->h'.get? b=aa o):Sim C H ρ {s with heap:=h',toks:=k}:=S.same (λb o e q=>hk b o e) (eO hk) (λq q e=>e) rfl S.bare
theorem Nx.ext(hk:∀ b o,s.heap.get? b=aa o->h'.get? b=aa o):Nx ρ W s ρ {s with heap:=h',toks:=k}:=⟨cx _,λl hl=>by simp at hl,λb o e q q=>hk b o e,eO hk,λb o e=>⟨o,hk b o e⟩⟩
theorem v7(e:Heap.ExtBut h.objs.size h h'):∀ b o,h.get? b=aa o->h'.get? b=aa o:=λb o q=>e b o (uk (Heap.lt_size q)) q
def at_(k:Int)(vs:ae V):aj V:=if-1000000<k/\k<1000000 then(jt k vs.length).bind λj=>vs[j]? else none
def V.tp:V->aj (ae V) | .tup vs=>aa vs |_=>Option.none
def aQ:OpF:=λa b H=>(Ti b).bind λk=>(match a.tp with |some vs=>at_ k vs |none=>(lst H a).bind (at_ k)).map λv=>(v,H)
set_option tactic.hygienic true in
theorem vL(h:jt k n=aa j):(0<=k/\j=k.toNat/\j<n)\/(k<0/\ -(n:Int)<=k/\j=(k+n).toNat/\j<n):=by
 unfold jt at h
 by_cases q:k<0
 ·simp only[q,xk]at h
  split at h
  ·rename_i g;refine cxS h ?_;simp at g;right;exact A5 g
  ·exact aF h
 ·simp only[q,jh]at h
  split at h
  ·rename_i g;refine cxS h ?_;simp at g;left;exact A6 g
  ·exact aF h
set_option tactic.hygienic true in
theorem yQ{P:Prop}(e:at_ k vs=aa v)(h:∀ j,-1000000<k->k<1000000->jt k vs.length=aa j->vs[j]? =aa v->P):P:=by
 unfold at_ at e
 split at e
 ·rename_i hk
  exact xEA (aq.mp e) λj h1 h2=>h j hk.1 hk.2 h1 h2
 ·first |exact aF e |cases e
theorem VR.toTup(r:VR ρ h u v)(e:v.tp=aa vs):∃ a xs n,v= .tup vs/\u= .ref a/\h.get? a=aa {cls:=.type "tuple",data:=.seq xs n}/\VRs ρ h xs.toList vs:=by
 cases v with
 |tup ws=>exact cxS e (gV r.inv λa xs n h1 h2 h3=>⟨a,xs,n,rfl,h1,h2,h3⟩)
 |_=>first |exact aF e |cases e
set_option tactic.hygienic true in
theorem v5{a b:bx}(S:Sim C H ρ s)(ra:VR ρ s.heap a va)(rb:VR ρ s.heap b vb)(e:aQ va vb H=aa (v,H')):H'=H/\∃ x,VR ρ s.heap x v/\(∀ Q:bx->aw->Prop,Q x s->ax C.M A (getItem a b) Q NoE s)/\∃ T id,s.TypeIs a T/\jn (.type T) "__getitem__" =pure (aa (.builtin id)):=by
 refine xEA (aq.mp e) λk hb e1=>xEA (dy.mp e1) λw e3 e2=>?_
 clear e e1
 cases e2
 refine VR.ti (P:=λb=>H=H/\∃ x,VR ρ s.heap x v/\(∀ Q:bx->aw->Prop,Q x s->ax C.M A (getItem a b) Q NoE s)/\∃ T id,s.TypeIs a T/\jn (.type T) "__getitem__" =pure (aa (.builtin id))) rb hb λt=>⟨rfl,?_⟩
 split at e3
 ·rename_i vs hvs
  refine cR (ra.toTup hvs) λad xs n c z25 g rs=>?_;subst z25
  exact yQ e3 λj h1 h2 hj hv=>xEA (rs.get hv) λx hx rx=>⟨x,rx,λQ q=>(PyProof.Rows.getItem_tuple ⟨_,g,rfl,_,rfl⟩ (by omega) (by omega) (rwL rs.sz hj) (by simpa using hx) q),"tuple",_,⟨_,g,rfl⟩,slot_tuple_getitem.lookup⟩
 ·refine xEA (aq.mp e3) λvs hl e4=>cC (cJ S ra hl) λad xs z26 h2 h3=>rwL z26 ?_
  have hlen:=h3.sz
  refine yQ e4 λj k1 k2 hj hv=>xEA (h3.get hv) λx hx rx=>⟨x,rx,λQ q=>?_,"list",_,h2.typeIs,slot_list_getitem.lookup⟩
  rcases vL hj with ⟨h0,rfl,hlt⟩ |⟨h0,h1,rfl,hlt⟩
  ·exact wpAny_getItem_list h2 h0 (by omega) (by simpa using hx) q
  ·exact wpAny_getItem_list_neg h2 h0 (A7 hlen h1) (by omega) (by refine rwL hlen ?_;simpa using hx) q
theorem EV.idx(h1:EV C r env e1 f1)(h2:EV C r env e2 f2)(hs:∀ o i,∃ ops,subscripted e2 am o i=operate ops (getItem o i)):EV C r env (.Subscript e1 e2 pos) (aA aQ f1 f2):=λa a a a a a hr S F q=>Subscript_ (EV.two h1 h2 hr S F q λ{x y s2 a a a a} S2 N2 rx ry q=>q.elim λp e q=>by
  obtain⟨hH,z,rz,hz,T,id,hT,hl⟩:=v5 (A:=_) S2 rx ry e
  exact xE (hs x y) λops ho=>tail_any hT hl (hz _ ⟨S2,N2,rz,hH▸q⟩) ho)
noncomputable abbrev AF:=V->Lo->MH->(Lo->MH->Prop)->Prop
def AVW(C:Cx)(W:Env->dv->Prop)(r:Nat)(env:Env)(t:Expr)(f:AF):Prop:=∀ ⦃A:gj⦄⦃s:aw⦄⦃ρ:ae Lc⦄⦃H:MH⦄⦃lo:Lo⦄⦃u:bx⦄⦃v:V⦄⦃Q:Lo->MH->Prop⦄,Room r A->Sim C H ρ s->Fm C env ρ s lo->VR ρ s.heap u v->f v lo H Q->
  ax C.M A (wt t env u) (eS C env (W env) ρ s Q) NoE s
noncomputable abbrev AV(C:Cx)(r:Nat)(env:Env)(t:Expr)(f:AF):Prop:=AVW C Wr r env t f
def aN(x:Str):AF:=λv lo H Q=>Q (upd lo x v) H
theorem AV.name{pos}(hk:env.kindOf x=aa .local\/env.kindOf x=aa .cell):AV C r env (.Name x pos) (aN x):=λa a a a a a a a a S F rv q=>uz (aA1 S F rv hk q)
noncomputable abbrev AFs:=ae V->Lo->MH->(Lo->MH->Prop)->Prop
def pU(C:Cx)(W:Env->dv->Prop)(r:Nat)(env:Env)(ts:ae Expr)(f:AFs):Prop:=∀ ⦃A:gj⦄⦃s:aw⦄⦃ρ:ae Lc⦄⦃H:MH⦄⦃lo:Lo⦄⦃us:ae bx⦄⦃vs:ae V⦄⦃Q:Lo->MH->Prop⦄,Room r A->Sim C H ρ s->Fm C env ρ s lo->VRs ρ s.heap us vs->f vs lo H Q->
  ax C.M A (qc ((fu ts env).map (·.2)) us) (eS C env (W env) ρ s Q) NoE s
noncomputable abbrev AVs(C:Cx)(r:Nat)(env:Env)(ts:ae Expr)(f:AFs):Prop:=pU C Wr r env ts f
def asN:AFs:=λvs lo H Q=>match vs with | []=>Q lo H |_=>fh
def asC(f:AF)(g:AFs):AFs:=λvs lo H Q=>match vs with
 |v::vs=>f v lo H λlo1 H1=>g vs lo1 H1 Q
 | []=>fh
theorem pU.nil:pU C W r env [] asN:=by
 intro A s ρ H lo us vs Q hr S F rv e
 cases rv with
 |nil=>exact zzP ⟨S,.refl,F,e⟩
 |cons _ _=>exact e.elim
set_option tactic.hygienic true in
theorem pU.cons(h:AVW C W r env t f)(hs:pU C W r env ts g)(he:fu (t::ts) env=(am,wt t env)::fu ts env):pU C W r env (t::ts) (asC f g):=by
 intro A s ρ H lo us vs Q hr S F rv e
 cases rv with
 |nil=>exact e.elim
 |cons a b=>
  rename_i u us v vs
  refine rwL he ?_
  show ax C.M A (do vv us (wt t env u);qc ((fu ts env).map (·.2)) us) _ _ s
  exact zzB (bz (eS.run (α:=wq) (h hr S F a e) λS1 N1 F1 q=>wmN (hs hr S1 F1 (b.nx N1) q) λc c p=>p.from N1))
theorem qS(hne:t≠it):∀ (n i:Nat) (s:aw) (Q:ae bx->aw->Prop),s.heap.IsListIter it t i->s.heap.IsList t items->i+n<=items.size-> (∀ h',h'.IsListIter it t (i+n)->Heap.SameBut it s.heap h'->Q ((items.toList.drop i).take n) {s with heap:=h'})->ax (iz prog w) A (draw (.ref it) n) Q E s
 |0,i,s,Q,hit,_,_,hQ=>(zzP (by simpa using hQ s.heap hit (Heap.SameBut.refl ..)):ax _ _ (pure []) Q E s)
 |n+1,i,s,Q,hit,ht,hle,hQ=>by
  have hlt:i<items.size:=by omega
  refine(?_:ax _ _ (mi (.ref it) >>=_) Q E s)
  refine zzB (qp hit ht (x:=items[i]) (by simp [hlt]) λh₁ hit₁ hs₁=>(zzB (bz (qS hne n (i+1) _ _ hit₁ (ht.extBut hs₁.extBut hne) (by omega) λh₂ hit₂ hs₂=>zzP ?_))))
  have hd:items.toList.drop i=items[i]::items.toList.drop (i+1):=by simp [List.drop_eq_getElem_cons,hlt]
  have:=hQ h₂ (rwL (show i+(n+1)=i+1+n by omega) hit₂) (hs₁.trans hs₂)
  rw[hd,List.take_succ_cons]at this
  exact this
theorem lK(hh:A.handled=none)(ht:s.heap.IsList t items)(hQ:∀ h',Heap.ExtBut s.heap.objs.size s.heap h'->Q items.toList {s with heap:=h'}):ax (iz prog w) A (yz (.ref t) items.size none) Q E s:=by
 have hlt:t≠s.heap.objs.size:=xEA ht λo ho q=>uk (Heap.lt_size ho)
 unfold yz
 refine zzB ?_
 unfold notIterableAtAll
 refine zzB (wi ht.typeIs slot_list_iter.lookup (zzP ?_))
 simp only[gu,jh]
 refine zzB (bz (qr ht (zzB (bz (qS hlt items.size 0 _ _ ⟨_,Heap.get?_push_size _ rfl,rfl,rfl⟩ (ht.push _) (by omega) λh₁ hit₁ hs₁=>?_)))))
 have hall:List.take items.size (List.drop 0 items.toList)=items.toList:=rwL List.drop_zero (List.take_of_length_le (by simp))
 refine rwL hall (rwL (bc (by simp)) ?_)
 have ht₁:h₁.IsList t items:=(ht.push _).extBut hs₁.extBut hlt
 refine zzB (bz (wm hh hit₁ ht₁ (by simp) λh₂ he₂=>?_))
 simp only[Option.isSome_none,gu,jh]
 refine zzP (hQ h₂ λb o hb e=>he₂ b o hb (hs₁.extBut b o hb (Heap.get?_push_of_some _ e)))
theorem u7{x1}(hh:A.handled=none)(ht:s.heap.IsList t items)(hn:(fu elts env).length=items.size)(hstar:(fu elts env).findIdx? (·.1)=none)(h:∀ h',Heap.ExtBut s.heap.objs.size s.heap h'->ax (iz prog w) A (qc ((fu elts env).map (·.2)) items.toList) Q E {s with heap:=h'}):
  ax (iz prog w) A (wt (.Tuple elts x1 pos) env (.ref t)) Q E s:=by
 rw[PyProof.Rows.assign_Tuple]
 refine zzB (ie ?_)
 unfold unpack
 exact rwL hn (rwL hstar (zzB (bz (lK hh ht h))))
def V.sq(H:MH):V->aj (ae V) | .tup vs=>aa vs | .ref i=>lst H (.ref i) |_=>Option.none
def sX(n:Nat)(g:AFs):AF:=λv lo H Q=>Lf (v.sq H) λvs=>vs.length=n/\g vs lo H Q
theorem AVW.tuple{pos}(h:pU C W r env ts g)(hn:(fu ts env).length=n)(hstar:(fu ts env).findIdx? (·.1)=none):AVW C W r env (.Tuple ts k pos) (sX n g):=λA s ρ H lo u v Q hr S F rv e=>e.elim λvs hv e2=>by
  cases v with
  |tup ws=>
   refine cyS hv λzq=>?_;subst zq
   refine cR (rv.toTup rfl) λa xs nn q z27 gt rs=>rwL z27 (assign_Tuple_tuple hr.1 ⟨_,gt,rfl,_,rfl⟩ (rwL hn (rwL rs.sz e2.1.symm)) hstar λh' he=>?_)
   have hk:=v7 he
   exact wmN (h hr (S.ext (k:=s.toks) hk) (F.nx (.ext hk)) (rs.mono (cx _) (eO hk)) e2.2) λq q p=>p.from (.ext hk)
  |ref i=>
   refine cC (cJ S rv hv) λa xs z27 gt rs=>rwL z27 ?_
   refine u7 hr.1 gt (rwL hn (rwL rs.sz e2.1.symm)) hstar λh' he=>?_
   have hk:=v7 he
   exact wmN (h hr (S.ext (k:=s.toks) hk) (F.nx (.ext hk)) (rs.mono (cx _) (eO hk)) e2.2) λq q p=>p.from (.ext hk)
  |_=>first |exact aF hv |cases hv
structure NxI(ρ:ae Lc)(X:dv->Prop)(s:aw)(ρ':ae Lc)(s':aw):Prop where
 pre:ρ<+:ρ'
 new:∀ l∈ρ'.drop ρ.length,s.heap.get? l.a=none/\s.heap.get? l.d=none
 kp:∀ b o,s.heap.get? b=aa o->¬Own ρ b->¬X b->s'.heap.get? b=aa o
 imm:Imm s.heap s'.heap
 al:∀ b o,s.heap.get? b=aa o->¬X b->∃ o',s'.heap.get? b=aa o'
noncomputable abbrev NK(σ:Type):=aj (V×σ)->MH->Prop
inductive pP(C:Cx){σ:Type}(mid:ae Lc->aw->σ->bx->bx->(dv->Prop)->Prop)(ρ:ae Lc)(s:aw)(X:dv->Prop)(x:bx)(Q:NK σ):aj bx->aw->Prop
 |done {s' ρ' H'} (S:Sim C H' ρ' s') (I:NxI ρ X s ρ' s') (q:Q none H'):pP C mid ρ s X x Q none s'
 |item {s' ρ' H' v it' u} (S:Sim C H' ρ' s') (I:NxI ρ X s ρ' s') (r:VR ρ' s'.heap u v) (m:mid ρ' s' it' u x X) (q:Q (aa (v,it')) H'):pP C mid ρ s X x Q (aa u) s'
structure ItK(C:Cx) where
 σ:Type
 nx:σ->MH->NK σ->Prop
 rel:ae Lc->aw->σ->bx->(dv->Prop)->Prop
 mid:ae Lc->aw->σ->bx->bx->(dv->Prop)->Prop
 tg:Expr->Prop
 need:Nat
 mono:∀ {ρ ρ' s s' it x X},rel ρ s it x X->ρ<+:ρ'->Imm s.heap s'.heap->(∀ b o,X b->s.heap.get? b=aa o->s'.heap.get? b=aa o)->rel ρ' s' it x X
 alive:∀ {ρ s it x X},rel ρ s it x X->∀ b,X b->∃ o,s.heap.get? b=aa o
 next:∀ {A:gj}{s ρ H it x X}{Q:NK σ}{r:Nat},need<=r->Room r A->Sim C H ρ s->rel ρ s it x X->(∀ b,X b->¬Own ρ b/\C.base.heap.get? b=none)->nx it H Q->
  ax C.M A (mi x) (pP C mid ρ s X x Q) NoE s
 lgo:∀ {A:gj}{s ρ H it x X u}{target:Expr}{r:Nat},Room r A->Sim C H ρ s->mid ρ s it u x X->tg target->(∀ b,X b->¬Own ρ b/\C.base.heap.get? b=none)->
  ax C.M A (wk target x u) (λq s'=>Sim C H ρ s'/\NxI ρ X s ρ s'/\rel ρ s' it x X) NoE s
noncomputable abbrev IF(K:ItK C):=Lo->MH->(K.σ->MH->Prop)->Prop
inductive wT(K:ItK C)(ρ:ae Lc)(s:aw)(Q:K.σ->MH->Prop)(y:bx)(s2:aw):Prop
 |mk {ρ':ae Lc}{X:dv->Prop}{it:K.σ}{H':MH} (S:Sim C H' ρ' s2) (N:Nx ρ noW s ρ' s2) (R:K.rel ρ' s2 it y X) (hX:∀ b,X b->s.heap.get? b=none/\¬Own ρ' b/\C.base.heap.get? b=none) (q:Q it H'):wT K ρ s Q y s2
def IV(K:ItK C)(r:Nat)(env:Env)(e:Expr)(f:IF K):Prop:=∀ ⦃A:gj⦄⦃s:aw⦄⦃ρ:ae Lc⦄⦃H:MH⦄⦃lo:Lo⦄⦃Q:K.σ->MH->Prop⦄,Room r A->Sim C H ρ s->Fm C env ρ s lo->f lo H Q->
  ax C.M A (jl e env) (λx s1=>ax C.M A (wu x) (wT K ρ s Q) NoE s1) NoE s
theorem fD(S:Sim C H ρ s){b:dv}(h:s.heap.get? b=none): ¬Own ρ b:=qL (l:=⟨b,b,none⟩) S h h (.inl rfl)
theorem d5(S:Sim C H ρ s){b:dv}(h:s.heap.get? b=none):C.base.heap.get? b=none:=kR S h
theorem Sim.iterStep{a:dv}(S:Sim C H ρ s)(hk:∀ b o,b≠a->s.heap.get? b=aa o->h'.get? b=aa o)(hi:∀ o,s.heap.get? a=aa o->¬aX o)(ho: ¬Own ρ a)(hb:C.base.heap.get? a=none):Sim C H ρ {s with heap:=h'}/\NxI ρ (λb=>b=a) s ρ {s with heap:=h'}:=by
 have im:Imm s.heap h':=λb o e i=>by
  by_cases q:b=a
  ·subst q;exact bw i (hi o e)
  ·exact hk b o q e
 refine⟨S.same (λb o e q=>hk b o ?_ e) im (λc c e=>e) rfl S.bare,⟨cx _,λl hl=>by simp at hl,λb o e c q=>hk b o q e,im,λb o e q=>⟨o,hk b o q e⟩⟩⟩
 rintro rfl
 refine Or.elim q (λq=>(ho q)) λq=>?_
 ·rw[hb]at q;cases q
theorem NxI.refl:NxI ρ X s ρ s:=⟨cx _,λl hl=>by simp at hl,λq q e q q=>e,.refl _,λq o e q=>⟨o,e⟩⟩
def oE:ae qt:=["enumerate","zip","dict_itemiterator","dict_reverseitemiterator","odict_iterator","itertools.zip_longest","itertools.pairwise"]
theorem jP{a:dv}(ho:s.heap.get? a=aa o)(hc:o.cls= .type T)(hT:oE.contains T=am)(h:Q () s):ax M A (wk target (.ref a) u) Q E s:=by
 have key:ax M A (do
   let (.ref r,.ref b):=(Value.ref a,u) |return
   let o<-load r
   match o.cls,o.data with
   | .type n,.fields vs=>
    if ["enumerate","zip","dict_itemiterator","dict_reverseitemiterator","odict_iterator","itertools.zip_longest","itertools.pairwise"].contains n && vs[0]? ==aa (rawInt b) then
     rule "for.unpacks-the-owned-tuple"
     updateField r 0 .none
   |_,_=>pure ():Sem wq) Q E s:=by
  cases u with
  |ref b=>
   refine zzB (wpAny_load ho (rwL hc ?_))
   have hT': ["enumerate","zip","dict_itemiterator","dict_reverseitemiterator","odict_iterator","itertools.zip_longest","itertools.pairwise"].contains T=am:=hT
   cases o.data<;>first |exact zzP h | (dsimp only;exact rwL hT' (zzP h))
  |_=>exact zzP h
 cases target<;>first |exact zzP h |exact key
theorem cV(N1:Nx ρ noW s ρ1 s1)(S1:Sim C H1 ρ1 s1){b:dv}(hb:s1.heap.get? b=none):s.heap.get? b=none/\¬Own ρ1 b/\C.base.heap.get? b=none:=by
 refine⟨?_,fD S1 hb,d5 S1 hb⟩
 cases e':s.heap.get? b with
 |none=>rfl
 |some o=>refine xE (N1.al _ _ e') λo' e''=>?_;rw[hb]at e'';exact aF e''
structure ItP(C:Cx)(σ:Type) where
 nx:σ->MH->aj (aj (V×σ))
 rel:ae Lc->aw->σ->dv->Prop
 T:qt
 own:oE.contains T=am
 mono:∀ {ρ ρ' s s' it a},rel ρ s it a->ρ<+:ρ'->Imm s.heap s'.heap->(∀ o,s.heap.get? a=aa o->s'.heap.get? a=aa o)->rel ρ' s' it a
 obj:∀ {ρ s it a},rel ρ s it a->∃ o,s.heap.get? a=aa o/\o.cls= .type T/\¬aX o
 item:∀ {A:gj}{s ρ H it a v it'}{Q:aj bx->aw->Prop},A.handled=none->Sim C H ρ s->rel ρ s it a->nx it H=aa (aa (v,it'))->
  (∀ u h' k,Heap.SameBut a s.heap h'->VR ρ s.heap u v->(∀ s':aw,s'.heap=h'->Imm s.heap h'->rel ρ s' it' a)->Q (aa u) {s with heap:=h',toks:=k})->ax C.M A (mi (.ref a)) Q NoE s
 fin:∀ {A:gj}{s ρ H it a}{Q:aj bx->aw->Prop},A.handled=none->Sim C H ρ s->rel ρ s it a->nx it H=aa none->
  (∀ h',Heap.ExtBut a s.heap h'->Q none {s with heap:=h'})->ax C.M A (mi (.ref a)) Q NoE s
theorem Sim.iterK{a:dv}(S:Sim C H ρ s)(hk:∀ b o,b≠a->s.heap.get? b=aa o->h'.get? b=aa o)(hi:∀ o,s.heap.get? a=aa o->¬aX o)(ho: ¬Own ρ a)(hb:C.base.heap.get? a=none):Sim C H ρ {s with heap:=h',toks:=k}/\NxI ρ (λb=>b=a) s ρ {s with heap:=h',toks:=k}:=let ⟨S',I⟩:=S.iterStep hk hi ho hb;⟨S'.toks k,⟨I.pre,I.new,I.kp,I.imm,I.al⟩⟩
def ItP.it(P:ItP C σ):ItK C where
 σ:=σ
 nx:=λit H Q=>Lf (P.nx it H) λy=>Q y H
 rel:=λρ s it x X=>∃ a,x= .ref a/\X=(λb=>b=a)/\P.rel ρ s it a
 mid:=λρ s it u x X=>∃ a,x= .ref a/\X=(λb=>b=a)/\P.rel ρ s it a
 tg:=λc=>vt
 need:=0
 mono:=λ⟨a,hx,hX,h⟩ e i hk=>⟨a,hx,hX,P.mono h e i λo q=>hk a o (hX▸rfl) q⟩
 alive:=λ⟨a,_,hX,h⟩ b hb=>by subst hX;subst hb;refine xEA (P.obj h) λo ho c=>?_;exact⟨o,ho⟩
 next:=by
  rintro A s ρ H it x X Q r _ hr S ⟨a,rfl,rfl,h⟩ hX e
  refine dY (P.obj h) λo ho hc hi=>?_
  have hi':∀ o,s.heap.get? a=aa o->¬aX o:=λo' e'=>by rw[ho]at e';cases e';exact hi
  have hXa:=hX a rfl
  refine e.elim λy ey q=>?_
  cases y with
  |some p=>
   refine P.item hr.1 S h ey λu h' k hs ru hrel=>?_
   refine xA (S.iterK (h':=h') (k:=k) (λb o hb e=>by rw[hs.2 b hb];exact e) hi' hXa.1 hXa.2) λS' I=>?_
   exact .item S' I (ru.mono (cx _) I.imm) ⟨a,rfl,rfl,hrel _ rfl I.imm⟩ q
  |none=>
   refine P.fin hr.1 S h ey λh' he=>?_
   refine xA (S.iterK (h':=h') (k:=s.toks) (λb o hb e=>he b o hb e) hi' hXa.1 hXa.2) λS' I=>?_
   exact .done S' I q
 lgo:=by
  rintro A s ρ H it x X u target r hr S ⟨a,rfl,rfl,h⟩ _ hX
  refine dY (P.obj h) λo ho hc hi=>?_
  exact jP ho hc P.own ⟨S,.refl,a,rfl,rfl,h⟩
def pList(C:Cx):ItP C (Nat×Nat) where
 nx:=λit H=>(lst H (.ref it.1)).map λvs=>(vs[it.2]?).map λv=>(v,(it.1,it.2+1))
 rel:=λρ s it a=>∃ l,ρ[it.1]? =aa l/\s.heap.IsListIter a l.a it.2
 T:="list_iterator"
 own:=by decide
 mono:=λ⟨l,h1,o,h2,h3⟩ e i hk=>⟨l,aT e h1,o,hk o h2,h3⟩
 obj:=λ⟨l,h1,o,h2,h3,h4⟩=>⟨o,h2,h3,by unfold aX;rw[h4];simp [h3]⟩
 item:=λhh S ⟨l,h1,hit⟩ e k=>by
  refine xEA (dy.mp e) λvs hl e=>?_
  refine xEA (dy.mp e) λv hv e=>?_
  cases e
  refine cC (cJ S (.ref h1) hl) λad xs q1 q2 q3=>?_
  cases q1
  refine xEA (q3.get hv) λu hu ru=>?_
  exact qp hit q2 (by simpa using hu) λh' hit2 hs=>k u h' _ hs ru λs' hs' q=>⟨l,h1,hs'▸hit2⟩
 fin:=λhh S ⟨l,h1,hit⟩ e k=>by
  refine xEA (dy.mp e) λvs hl e=>?_
  refine cC (cJ S (.ref h1) hl) λad xs q1 q2 q3=>?_
  cases q1
  exact wm hh hit q2 (Array.getElem?_eq_none (by rw[q3.sz];exact getElem?_eq_none_iff.mp (Option.map_eq_none_iff.mp e))) λh' he=>k h' he
noncomputable abbrev bZ(C:Cx):ItK C:=(pList C).it
def iL(f:EF):Lo->MH->(Nat×Nat->MH->Prop)->Prop:=λlo H Q=>f lo H λv H1=>Lf v.rf λi=>(∃ vs,lst H1 (.ref i)=aa vs)/\Q (i,0) H1
theorem IV.list(h:EV C r env e f):IV (bZ C) r env e (iL f):=λa a a a a a hr S F q=>h.run hr S F q λS1 N1 r1 q=>q.elim λi hi q=>by
  refine dY (r1.toRef hi) λl z28 z29 g=>?_;subst z28;subst z29
  refine xA q λz30 q=>?_;obtain⟨vs,hl⟩:=z30
  refine cC (cJ S1 r1 hl) λad xs e q2 q3=>?_
  cases e
  exact qr q2 ⟨S1.push _,N1.trans (.push _),⟨_,rfl,rfl,l,g,_,Heap.get?_push_size _ rfl,rfl,rfl⟩,λb hb=>rwL (show b=_ from hb) (cV N1 S1 (bC _)),q⟩
def t7(again:Lo->MH->SK->Prop)(Q:SK):SK:=λfl lo H=>match fl with | .next=>again lo H Q | .cont=>again lo H Q | .brk=>Q .next lo H | .ret v=>Q (.ret v) lo H
def cU(K:ItK C)(tgt:AF)(body:SF):Nat->K.σ->Lo->MH->SK->Prop
 |0,_,_,_,_=>fh
 |n+1,it,lo,H,Q=>K.nx it H λres H1=>match res with
  |none=>Q .next lo H1
  |some p=>tgt p.1 lo H1 λlo1 H2=>body lo1 H2 (t7 (cU K tgt body n p.2) Q)
def yV(C:Cx)(env:Env)(ρ0:ae Lc)(s0:aw)(Q:SK):tu->aw->Prop
 | .ok f,s'=>mS C env ρ0 s0 Q f s'
 | .error _,_=>fh
theorem Nx.stepI(N:Nx ρ0 W s0 ρ s)(I:NxI ρ X s ρ' s')(hX:∀ b,X b->s0.heap.get? b=none):Nx ρ0 W s0 ρ' s':=by
 have nX:∀ {b:dv}{o:Obj},s0.heap.get? b=aa o->¬X b:=λe q=>by rw[hX _ q]at e;exact aF e
 refine⟨N.pre.trans I.pre,λl hl=>(xE N.pre λt z31=>?_),λb o e ho hw=>I.kp b o (N.kp b o e ho hw) (N.own e ho) (nX e),N.imm.trans I.imm,λb o e=>let ⟨o',e'⟩:=N.al b o e;I.al b o' e' (nX e)⟩;subst z31
 refine xE I.pre λt' z32=>?_;subst z32
 rw[bn,vk]at hl
 refine Or.elim (cu.mp hl) (λq=>(N.new l (by simpa using q))) λq=>?_
 ·have n:=I.new l (by simpa using q)
  refine⟨?_,?_⟩
  ·cases e:s0.heap.get? l.a with
   |none=>rfl
   |some o=>refine xE (N.al _ _ e) λo' e'=>?_;rw[n.1]at e';exact aF e'
  ·cases e:s0.heap.get? l.d with
   |none=>rfl
   |some o=>refine xE (N.al _ _ e) λo' e'=>?_;rw[n.2]at e';exact aF e'
theorem Fm.nextI(F:Fm C env ρ s lo)(N:NxI ρ X s ρ' s')(hw:∀ b,Wr env b->¬X b):Fm C env ρ' s' lo:=by
 refine xEA F.ns λm z33 hm=>?_;obtain⟨o,es,ep,ho,hr⟩:=z33
 have k:∀ b o,Wr env b->s.heap.get? b=aa o->s'.heap.get? b=aa o:=λb o hb e=>N.kp b o e (F.own b hb).1 (hw b hb)
 have own:∀ {b:dv}{o:Obj},s.heap.get? b=aa o->¬Own ρ b->¬Own ρ' b:=by
  rintro b o hb h ⟨l,hl,hh⟩
  refine xE N.pre λt z34=>?_;subst z34
  refine Or.elim (cu.mp hl) (λq=>(h ⟨l,q,hh⟩)) λq=>?_
  ·have:=N.new l (by simpa using q)
   rcases hh with rfl |rfl
   ·rw[this.1]at hb;exact aF hb
   ·rw[this.2]at hb;exact aF hb
 exact⟨F.fn,F.gl,F.bi,⟨m,⟨o,es,ep,k _ _ (.inl rfl) ho,hr⟩,λx hx=>(hm x hx).mono N.pre N.imm⟩,λx hx=>(cR (F.cl x hx) λc o u h1 h2 h3 h4=>⟨c,o,u,h1,k _ _ (.inr ⟨x,h1⟩) h2,h3,h4.mono N.pre N.imm⟩),λb hb=>⟨(let ⟨o,e⟩:=F.alv b hb;own e (F.own b hb).1),(F.own b hb).2⟩,F.dis,F.inj,λb hb=>let ⟨o,e⟩:=F.alv b hb;⟨o,k b o hb e⟩⟩
theorem NxI.owns(I:NxI ρ X s ρ' s'){b:dv}(e':s.heap.get? b=aa o)(h: ¬Own ρ b): ¬Own ρ' b:=by
 rintro ⟨l,hl,hh⟩
 refine xE I.pre λt z35=>?_;subst z35
 refine Or.elim (cu.mp hl) (λz=>(h ⟨l,z,hh⟩)) λz=>?_
 ·have:=I.new l (by simpa using z)
  rcases hh with rfl |rfl
  ·rw[this.1]at e';exact aF e'
  ·rw[this.2]at e';exact aF e'
def Apart(C:Cx)(env:Env)(ρ:ae Lc)(s0:aw)(X:dv->Prop):Prop:=∀ b,X b->s0.heap.get? b=none/\¬Own ρ b/\C.base.heap.get? b=none/\¬Wr env b
theorem Apart.two(h:Apart C env ρ s0 X):∀ b,X b->¬Own ρ b/\C.base.heap.get? b=none:=λb q=>⟨(h b q).2.1,(h b q).2.2.1⟩
theorem uK{K:ItK C}(ht:AV C r env target tgt)(hb:SVs C r env body bf)(htg:K.tg target/\K.need<=r):∀ (n:Nat){A:gj}{s0 s:aw}{ρ0 ρ:ae Lc}{H:MH}{lo:Lo}{it:K.σ}{x:bx}{X:dv->Prop}{Q:SK},Room r A->Nx ρ0 (Wr env) s0 ρ s->Sim C H ρ s->Fm C env ρ s lo-> K.rel ρ s it x X->Apart C env ρ s0 X->cU K tgt bf n it lo H Q->ma C.M A (.forLoop target x body [] env) (yV C env ρ0 s0 Q) s
 |0,_,_,_,_,_,_,_,_,_,_,_,_,_,_,_,_,_,e=>e.elim
 |n+1,A,s0,s,ρ0,ρ,H,lo,it,x,X,Q,hr,N,S,F,R,hX,e=>by
  refine oq (rwL (Around.under_of_weight (c:=.forLoop target x body [] env) rfl rfl) ?_)
  show ax C.M A ((forTurn target x body [] env).onRaise (λx=>do ug x env;ot x)) _ _ s
  refine qd (ir (Q:=λfin s'=>match fin with
   | .done f=>yV C env ρ0 s0 Q (.ok f) s'
   | .again c'=>c'.quiet=ak/\ma C.M A c' (yV C env ρ0 s0 Q) s') (E:=NoE) ?_ (λa a z=>z) (λa a z=>z.elim))
  unfold forTurn
  refine zzB (ie (zzB (qd (wmN (K.next htg.2 hr S R hX.two e) λo s1 p=>?_))))
  cases p with
  |done S1 I1 q=>
   refine zzP ⟨rfl,oq (rwL (Around.under_of_weight (c:=.block [] env) rfl rfl) ?_)⟩
   show ax C.M A (do return Fin.done (<-(pc [] env).onRaise (λx=>do ug x env;ot x))) _ _ s1
   exact zzB (qd (wh (zzP ⟨S1,N.stepI I1 (λb q=>(hX b q).1),F.nextI I1 (λb hw q=>(hX b q).2.2.2 hw),.next,q⟩)))
  |item S1 I1 ru R1 q=>
   have hX1:Apart C env _ s0 X:=λb q=>let ⟨o',e'⟩:=K.alive R b q;⟨(hX b q).1,I1.owns e' (hX b q).2.1,(hX b q).2.2⟩
   refine zzB (wmN (K.lgo (target:=target) hr S1 R1 htg.1 hX1.two) λa s2 p=>(xAA p λS2 I2 R2=>zzB (eS.run (α:=wq) (ht hr S2 ((F.nextI I1 (λb hw q=>(hX b q).2.2.2 hw)).nextI I2 (λb hw q=>(hX1 b q).2.2.2 hw)) (ru.mono I2.pre I2.imm) q) λS3 N3 F3 q=>zzB (wmN (hb hr S3 F3 q) λf s4 p=>?_))))
   obtain⟨S4,N4,F4,r4,q⟩:=p
   have N24:=N3.trans N4
   have N04:=((N.stepI I1 (λb q=>(hX b q).1)).stepI I2 (λb q=>(hX b q).1)).trans N24
   have go:∀ {q:cU K tgt bf n _ _ _ Q},ma C.M A (.forLoop target x body [] env) (yV C env ρ0 s0 Q) s4:=λ{q}=>
    uK ht hb htg n hr N04 S4 F4 (K.mono R2 N24.pre N24.imm (λb o q e'=>N24.kp b o e' (hX1 b q).2.1 (hX b q).2.2.2))
     (λb z=>let ⟨o',e'⟩:=K.alive R2 b z;⟨(hX b z).1,N24.own e' (hX1 b z).2.1,(hX b z).2.2⟩) q
   cases r4 with
   |next=>exact zzP ⟨rfl,go (q:=q)⟩
   |cont=>exact zzP ⟨rfl,go (q:=q)⟩
   |brk=>exact zzP ⟨S4,N04,F4,.next,q⟩
   |ret r4=>exact zzP ⟨S4,N04,F4,.ret r4,q⟩
def g8(K:ItK C)(fi:IF K)(tgt:AF)(bf:SF):SF:=λlo H Q=>fi lo H λit H1=>∃ n,cU K tgt bf n it lo H1 Q
theorem SV.for_{K:ItK C}{pos}{fi:IF K}(hi:IV K r env iter fi)(ht:AV C r env target tgt)(hb:SVs C r env body bf)(htg:K.tg target/\K.need<=r)(hs:∀ x,iw iter env x=pure x):SV C r env (.For target iter body [] pos) (g8 K fi tgt bf):=λa a a a a a hr S F e=>wpAny_For (wmN (hi hr S F e) λx s1 h=>wmN h λy s2 ⟨S2,N2,R2,hX,q⟩=>by
  refine xE q λn q=>ny (uK ht hb htg n hr N2.wr S2 (F.nx N2) R2 (λb q=>⟨(hX b q).1,(hX b q).2.1,(hX b q).2.2,λhw=>?_⟩) q) λrr s3 hL=>?_
  ·refine xE (F.alv b hw) λo e'=>?_;rw[(hX b q).1]at e';exact aF e'
  ·cases rr with
   |ok f=>exact hL
   |error _=>exact hL.elim) hs
def runW(t:TF)(b:SF):Nat->Lo->MH->SK->Prop
 |0,_,_,_=>fh
 |n+1,lo,H,Q=>t lo H λc H1=>bif c then b lo H1 (t7 (runW t b n) Q) else Q .next lo H1
def j5(t:TF)(b:SF):SF:=λlo H Q=>∃ n,runW t b n lo H Q
inductive WInv(C:Cx)(env:Env)(t:TF)(b:SF)(Q:SK)(ρ:ae Lc)(s:aw)(n:Nat)(s1:aw):Prop
 |mk {ρ1:ae Lc}{H1:MH}{lo1:Lo} (S:Sim C H1 ρ1 s1) (N:Nx ρ (Wr env) s ρ1 s1) (F:Fm C env ρ1 s1 lo1) (e:runW t b n lo1 H1 Q):WInv C env t b Q ρ s n s1
theorem SV.while_{pos}{b:SF}(ht:TV C r env test t)(hb:SVs C r env body b):SV C r env (.While test body [] pos) (j5 t b):=by
 intro A s ρ H lo Q hr S F e
 refine xE e λn e=>wpAny_While (codeAny_whileLoop (R:=λrr s'=>match rr with | .ok f=>mS C env ρ s Q f s' | .error e=>cameBackBy C.M A env NoE e s') (WInv C env t b Q ρ s) ?_ n ⟨S,.refl,F,e⟩)
 intro n s1 p
 obtain⟨S1,N1,F1,e⟩:=p
 cases n with
 |zero=>exact e.elim
 |succ n=>
  refine ht.run hr S1 F1 e λ{y q q q} S2 N2 e=>?_
  have N02:=N1.trans N2.wr
  cases y with
  |false=>exact wh ⟨S2,N02,F1.nx N2,.next,e⟩
  |true=>
   refine wmN (hb hr S2 (F1.nx N2) e) λf s3 p=>?_
   obtain⟨S3,N3,F3,r3,e⟩:=p
   cases r3 with
   |next=>exact⟨n,Nat.lt_succ_self _,S3,N02.trans N3,F3,e⟩
   |cont=>exact⟨n,Nat.lt_succ_self _,S3,N02.trans N3,F3,e⟩
   |brk=>exact⟨S3,N02.trans N3,F3,.next,e⟩
   |ret r3=>exact⟨S3,N02.trans N3,F3,.ret r3,e⟩
def ALs(C:Cx)(r:Nat)(env:Env)(ts:ae Expr)(f:AF):Prop:=∀ ⦃A:gj⦄⦃s:aw⦄⦃ρ:ae Lc⦄⦃H:MH⦄⦃lo:Lo⦄⦃u:bx⦄⦃v:V⦄⦃Q:Lo->MH->Prop⦄,Room r A->Sim C H ρ s->Fm C env ρ s lo->VR ρ s.heap u v->f v lo H Q->
  ax C.M A (assignAll u ((fu ts env).map (·.2))) (eS C env (Wr env) ρ s Q) NoE s
theorem ALs.one(h:AV C r env t f)(he:(fu [t] env).map (·.2)= [wt t env]):ALs C r env [t] f:=by
 intro A s ρ H lo u v Q hr S F rv e
 exact rwL he (h hr S F rv e)
def iO(f g:AF):AF:=λv lo H Q=>f v lo H λlo1 H1=>g v lo1 H1 Q
theorem ALs.cons(h:AV C r env t f)(hs:ALs C r env (t2::ts) g)(he:(fu (t::t2::ts) env).map (·.2)=wt t env::(fu (t2::ts) env).map (·.2))(hc:∃ x xs,(fu (t2::ts) env).map (·.2)=x::xs):ALs C r env (t::t2::ts) (iO f g):=by
 intro A s ρ H lo u v Q hr S F rv e
 refine rwL he ?_
 have key:ax C.M A (do vv [u] (wt t env u);assignAll u ((fu (t2::ts) env).map (·.2))) (eS C env (Wr env) ρ s Q) NoE s:=zzB (bz (eS.run (α:=wq) (h hr S F rv e) λS1 N1 F1 q=>wmN (hs hr S1 F1 (rv.nx N1) q) λa a p=>p.from N1))
 refine xEE hc λx xs hx=>?_
 rw[hx]at key ⊢
 exact key
def cE(f:EF)(g:AF):SF:=λlo H Q=>f lo H λv H1=>g v lo H1 λlo' H2=>Q .next lo' H2
theorem SV.assigns{pos}(h:EV C r env e f)(ha:ALs C r env ts g)(hs:swapsWithSole ts e pos.line env=pure am)(hw:kq ts e env=pure none):SV C r env (.Assign ts e pos) (cE f g):=λa a a a a a hr S F q=>wpAny_Assign_stores (h.run hr S F q λS1 N1 r1 q=>eS.run (α:=wq) (ha hr S1 (F.nx N1) r1 q) λS2 N2 F2 q=>⟨S2,N1.wr.trans N2,F2,.next,q⟩) hs hw
def upds:ae Str->ae V->Lo->aj Lo
 | [],[],lo=>aa lo
 |x::xs,v::vs,lo=>upds xs vs (upd lo x v)
 |_,_,_=>none
theorem aEs:∀ {us:ae bx}{vs:ae V}{s:aw}{ρ:ae Lc}{H:MH}{lo lo':Lo},Sim C H ρ s->Fm C env ρ s lo->VRs ρ s.heap us vs->upds xs vs lo=aa lo'->Q lo' H-> (∀ x∈xs,env.kindOf x=aa .local\/env.kindOf x=aa .cell)->ax C.M A (qc (xs.map λn=>bindName env n) us) (eS C env (Wr env) ρ s Q) NoE s:=by
 induction xs with
 |nil=>
  intro us vs s ρ H lo lo' S F r e q _
  cases r with
  |nil=>refine cyS e λzq=>?_;subst zq;exact zzP ⟨S,.refl,F,q⟩
  |cons=>exact aF e
 |cons x xs ih=>
  intro us vs s ρ H lo lo' S F r e q hk
  cases r with
  |nil=>exact aF e
  | @cons u us v vs a b=>
   exact(zzB (bz (bindName_ (gZ S F a (s9 (hk x (.head _))) λc S1 N1 F1=>wmN (ih S1 F1 (b.nx N1) e q (λy hy=>hk y (.tail _ hy))) λc c p=>p.from N1))):ax C.M A (do vv us (bindName env x u);qc (xs.map λn=>bindName env n) us) _ _ s)
theorem VRs.rev(r:VRs ρ h us vs):VRs ρ h us.reverse vs.reverse:=by
 induction us generalizing vs with
 |nil=>cases r;exact .nil
 |cons u us ih=>cases r with
  |cons a b=>simp only[List.reverse_cons];exact(ih b).append (.cons a .nil)
def cS(names:ae Str)(f:EF):SF:=λlo H Q=>f lo H λv H1=>Lf v.tp λvs=>vs.length=names.length/\Lf (upds names.reverse vs.reverse lo) λlo'=>Q .next lo' H1
theorem SV.swap{pos}(h:EV C r env e f)(hs:swapsWithSole [.Tuple elts k tpos] e pos.line env=pure am)(hw:kq [.Tuple elts k tpos] e env=pure (aa names))(hk:∀ x∈names,env.kindOf x=aa .local\/env.kindOf x=aa .cell):SV C r env (.Assign [.Tuple elts k tpos] e pos) (cS names f):=λa a a a a a hr S F q=>Assign_Tuple_swapped (h.run hr S F q λS1 N1 r1 q=>q.elim λvs hv q=>q.2.elim λlo1 h2 q2=>by
  refine cR (r1.toTup hv) λa xs nn a z36 gt rs=>rwL z36 ?_
  refine rwR q.1 (rwR rs.sz (unpackItems_tuple hr.1 ⟨_,gt,rfl,_,rfl⟩ λh' he=>?_))
  have hk':=v7 he
  exact eS.run (α:=wq) (aEs (S1.ext hk') ((F.nx N1).nx (.ext hk')) (rs.mono (cx _) (eO hk')).rev h2 q2 (λx hx=>hk x (by simpa using hx))) λS2 N2 F2 q=>⟨S2,(N1.wr.trans (.ext hk')).trans N2,F2,.next,q⟩) hs hw
def zC(x:Str)(g:OpF)(f:EF):SF:=λlo H Q=>Lf (lo x) λa=>f lo H λb H2=>Lp (g a b H2) λv H1=>Q .next (upd lo x v) H1
theorem SV.aug{pos'}{pos}(h:EV C r env e f)(ho:OpR C r (inplaceOp op) g)(hk:env.kindOf x=aa .local\/env.kindOf x=aa .cell)(hc:(x==("__classdict__" :Str))=am):SV C r env (.AugAssign (.Name x pos') op e pos) (zC x g f):=λa a a a a a hr S F q=>q.elim λa hx q=>wpAny_AugAssign_Name (qH (hk.imp_right .inl) hc F hx λu ru=>h.run hr S F q λS2 N2 r2 q=>b5.run (ho hr S2 (ru.nx N2) r2 q) λS3 N3 r3 q=>
  gZ S3 ((F.nx N2).nx N3) r3 (s9 hk) λa S4 N4 F4=>⟨S4,(N2.trans N3).wr.trans N4,F4,.next,q⟩)
def aW(f:EF):SF:=λlo H Q=>f lo H λq H1=>Q .next lo H1
theorem SV.expr{pos}(h:EV C r env e f)(hi:tm env=am)(hs:uf e none pos.line env=pure am):SV C r env (.Expr e pos) (aW f):=λa a a a a a hr S F q=>wpAny_Expr_any (h.run hr S F q λS1 N1 r1 q=>⟨S1,N1.wr,F.nx N1,.next,q⟩) hi hs
def sNo:SF:=λq q q=>fh
theorem SVs.no{b:ae jz}:SVs C r env b sNo:=λa a a a a a a a a q=>q.elim
theorem aBa(hl:IsL s.heap l items n)(hk: -1000000<k/\k<1000000)(hj:jt k items.size=aa j)(hQ:Q () {s with heap:=s.heap.update l (Obj.mapSeq (·.setIfInBounds j v))}):
  ax (iz prog w) A (setItem (.ref l) (.int k t) v) Q E s:=by
 have hl':=hl.isList
 refine wV (id hl') λo ho hc ne hd=>?_
 have hlt:j<items.size:=by refine Or.elim (vL hj) (λh=>?_) λh=>?_<;>omega
 have hx':items[j]? =aa items[j]:=Array.getElem?_eq_getElem hlt
 unfold setItem
 try with_reducible refine bz ?_
 first |refine zzB (zzP ?_) |skip
 refine zzB (wpAny_sequenceKey hl'.typeIs (by decide) ?_)
 refine zzB (fx (name:=Str.ofString "__setitem__") hl'.typeIs slot_list_setitem
  (ii slot_list_setitem hl'.typeIs entry_list_setitem ?_ (args_list_setitem _ _ _)))
 refine(?_:ax _ _ (Builtin.List.listSubscript? (.int k t) >>=_) _ _ s)
 have fin:∀ {Q':Fin->aw->Prop},Q' (.done (.ret .none)) {s with heap:=s.heap.update l (Obj.mapSeq (·.setIfInBounds j v))}->ax (iz prog w) A.in1 (do setSeqItemAt l j v;return<-ret .none) Q' E s:=λh=>zzB (ul ho hd (zzP h))
 rcases vL hj with ⟨h0,e,_⟩ |⟨h0,h1,e,_⟩
 ·refine zzB (vl (fitsIndex_of h0 (by omega)) (xE (Int.eq_ofNat_of_zero_le h0) λj' z37=>?_));subst z37
  have:j=j':=by simpa using e
  subst this
  refine((zzB (zzB (wpAny_seqItemAt ho hd (zzP (rwL hx' ?_))))):ax _ _ ((seqItemAt l j >>=λr=>pure (r.map (j,·))) >>=_) _ _ s)
  show ax _ _ (setSeqItemAt l j v >>=_) _ _ s
  refine zzB (ul ho hd ?_)
  first
   |exact zzB (zzP (zzP ⟨.none,rfl,zzP hQ⟩))
   |exact zzP ⟨.none,rfl,zzP hQ⟩
 ·refine zzB (vl (fitsIndex_neg h0 (by omega)) ?_)
  have hidx:=seqIndex_neg h0 h1
  obtain⟨j',rfl⟩:∃ j:Nat,k=Int.negSucc j:=by
   cases k with
   |ofNat n=>exact bw h0 (oy.mpr (ee n))
   |negSucc n=>exact⟨n,rfl⟩
  refine((zzB (zzB (?_:ax _ _ (vm (.ref l) >>=_) _ _ s))):ax _ _ ((Builtin.List.listItems (.ref l) >>=λxs=>pure ((jt (Int.negSucc j') xs.size).bind λi=>xs[i]?.map (i,·))) >>=_) _ _ s)
  refine zzB (jb ho hd (zzP (zzP (rwL hj ?_))))
  simp only[Option.bind_some,hx',um]
  refine zzB (ul ho hd ?_)
  first
   |exact zzB (zzP (zzP ⟨.none,rfl,zzP hQ⟩))
   |exact zzP ⟨.none,rfl,zzP hQ⟩
theorem Sim.put(S:Sim C H ρ s)(hl:ρ[i]? =aa l)(hH:H[i]? =aa m)(hd:l.d=l.a)(ho:s.heap.get? l.a=aa o)(hi: ¬aX o)(hs:Heap.SameBut l.a s.heap h')(hn:∃ o,h'.get? l.a=aa o)(h1:∀ vs,m≠ .ro vs)(h2:∀ vs,m'≠ .ro vs)(hm:Imm s.heap h'->OR C ρ {s with heap:=h',toks:=k} l m'):
  Sim C (H.set i m') ρ {s with heap:=h',toks:=k}/\∀ W,Nx ρ W s ρ {s with heap:=h',toks:=k}:=by
 have im:=dQ hs ho hi
 refine⟨S.upd (s':= {s with heap:=h',toks:=k}) hl hH h1 (λb o e hb=>(hs.2 b λq=>hb (.inl q)).trans e) im rfl rfl (hm im) h2,
  λW=>⟨cx _,λl hl=>by simp at hl,λb o e ho c=>(hs.2 b λq=>ho ⟨l,dm hl,.inl q⟩).trans e,im,λb o e=>?_⟩⟩
 by_cases q:b=l.a
 ·exact rwL q hn
 ·exact⟨o,(hs.2 b q).trans e⟩
theorem jN.put(S:Sim C H ρ s)(O:jN H ρ s i l vs xs n)(f:om bx->om bx)(hv:VRs ρ s.heap (f xs).toList vs'):Sim C (H.set i (.list vs')) ρ {s with heap:=s.heap.update l.a (Obj.mapSeq f),toks:=k}/\∀ W,Nx ρ W s ρ {s with heap:=s.heap.update l.a (Obj.mapSeq f),toks:=k}:=S.put O.g O.h O.d O.x (by simp [aX]) (Heap.SameBut.update ..) ⟨_,O.x.update f⟩ (by intro _ h;cases h) (by intro _ h;cases h) λim=>⟨O.d,O.gn,f xs,_,O.x.update f,hv.mono (cx _) im⟩
def dput(f:Int->aj V)(k:Int)(v:V):Int->aj V:=λx=>if x=k then aa v else f x
theorem nV(kvs:ae (Int×bx))(k x:Int)(v:bx):qo (stored kvs k v) x=if x=k then aa v else qo kvs x:=by
 unfold stored
 by_cases hk:kvs.any (λkv=>decide (kv.1=k))=ak
 ·rw[bo hk]
  by_cases hx:x=k
  ·subst hx
   refine rwL (bo rfl) ?_
   induction kvs with
   |nil=>simp at hk
   |cons a t ih=>
    by_cases ha:a.1=x
    ·simp [qo,ha]
    ·have hk2:t.any (λkv=>decide (kv.1=x))=ak:=by simpa [ha] using hk
     have:=ih hk2
     simp only[qo,fp,ha,jh,yd,decide_false]at this ⊢
     exact this
  ·refine rwL (bc hx) ?_
   clear hk
   induction kvs with
   |nil=>rfl
   |cons a t ih=>
    by_cases ha:a.1=k
    ·have hax: ¬a.1=x:=rwL ha (λe=>hx e.symm)
     simp only[qo,fp,ha,xk,yd]at ih ⊢
     have h1:decide (k=x)=am:=by simpa using λe=>hx e.symm
     exact rwL h1 ih
    ·by_cases hax:a.1=x
     ·refine rwR hax ?_
      simp only[qo,fp,ha,jh,yd,decide_true,um]
     ·simp only[qo,fp,ha,jh,yd,hax,decide_false]at ih ⊢
      exact ih
 ·rw[bc hk]
  unfold qo
  refine rwL List.find?_append ?_
  by_cases hx:x=k
  ·subst hx
   have:kvs.find? (λkv=>decide (kv.1=x))=none:=by
    rw[List.find?_eq_none];intro a ha h;exact hk (List.any_eq_true.mpr ⟨a,ha,h⟩)
   simp [this]
  ·have:decide (k=x)=am:=by simpa using λe=>hx e.symm
   simp [hx,this]
theorem Sim.setD(S:Sim C H ρ s)(hl:ρ[i]? =aa l)(hH:H[i]? =aa (.dict n f))(hd:l.d=l.a)(hg:l.g=none)(hx:s.heap.DictOf (uy C.prog C.w) l.a kvs)(hn:kvs.length<=n)(hf:∀ k,OV ρ s.heap (qo kvs k) (f k))(rv:VR ρ s.heap u v)(hx':h'.DictOf (uy C.prog C.w) l.a (stored kvs k u))(hs:Heap.SameBut l.a s.heap h'):Sim C (H.set i (.dict (n+1) (dput f k v))) ρ {s with heap:=h',toks:=tk}/\∀ W,Nx ρ W s ρ {s with heap:=h',toks:=tk}:=by
 refine cR (id hx) λo es ep ho hc hdt q=>S.put hl hH hd ho (by unfold aX;exact rwL hdt id) hs (let ⟨o,_,_,e,_⟩:=hx';⟨o,e⟩) (by intro _ h;cases h) (by intro _ h;cases h) λim=>⟨hd,hg,_,hx',Nat.le_trans (stored_length_le _ _ _) (qu hn),λx=>?_⟩
 rw[nV]
 unfold dput
 by_cases hx:x=k
 ·exact rwL (bo hx) (rwL (bo hx) (rv.mono (cx _) im))
 ·exact rwL (bc hx) (rwL (bc hx) ((hf x).mono (cx _) im))
def setO(H:MH)(i:Nat)(k:Int)(v:V):MO->aj MH
 | .list vs=>if-1000000<k/\k<1000000 then(jt k vs.length).map λj=>H.set i (.list (vs.set j v)) else none
 | .dict n f=>if n<1000000 then aa (H.set i (.dict (n+1) (dput f k v))) else none
 |_=>none
def zE(a b v:V)(H:MH):aj MH:=a.rf.bind λi=>(Ti b).bind λk=>H[i]?.bind (setO H i k v)
theorem VRs.set(r:VR ρ h u v):∀ {us:ae bx}{vs:ae V} (j:Nat),VRs ρ h us vs->VRs ρ h (us.set j u) (vs.set j v)
 |_,_,_,.nil=>.nil
 |_,_,0,.cons a b=>.cons r b
 |_,_,j+1,.cons a b=>.cons a (VRs.set r j b)
set_option tactic.hygienic true in
theorem vJ{a b:bx}{K:wq->aw->Prop}(S:Sim C H ρ s)(ra:VR ρ s.heap a va)(rb:VR ρ s.heap b vb)(rv:VR ρ s.heap u v)(e:zE va vb v H=aa H')(k:∀ s',Sim C H' ρ s'->(∀ W,Nx ρ W s ρ s')->K () s'):ax C.M A (setItem a b u) K E s:=by
 refine xEA (aq.mp e) λi hi e1=>xEA (aq.mp e1) λkk hk e2=>xEA (aq.mp e2) λm hH e3=>dY (ra.toRef hi) λl q z38 g=>rwL z38 ?_
 refine VR.ti (P:=λb=>ax C.M A (setItem _ b u) _ _ s) rb hk λt=>?_
 clear e e1 e2
 cases m with
 |list vs=>
  replace e3:(if-1000000<kk/\kk<1000000 then(jt kk vs.length).map λj=>H.set i (.list (vs.set j v)) else none)=aa H':=e3
  split at e3
  ·rename_i hk
   refine xEA (dy.mp e3) λj hj z39=>?_;subst z39
   refine xEE (iD S g hH) λxs n O=>aBa O.x hk (rwL O.r.sz hj) ?_
   have:=O.put (k:=s.toks) S (λxs=>xs.setIfInBounds j u) (by simpa using VRs.set rv j O.r)
   exact k _ this.1 this.2
  ·exact aF e3
 |dict n f=>
  replace e3:(if n<1000000 then aa (H.set i (.dict (n+1) (dput f kk v))) else none)=aa H':=e3
  split at e3
  ·refine cyS e3 λzq=>?_;subst zq
   refine vD (S.objs i _ l hH g) λh1 h2 kvs hx hle hf=>wpAny_setItem_pairs (k:=kk) (uo _ _ _ _) hx (λh' hx' hs=>?_) (by refine rwL eu ?_;omega)
   have:=S.setD (tk:=s.toks+1) g hH h1 h2 hx hle hf rv hx' hs
   exact k _ this.1 this.2
  ·exact aF e3
 |_=>exact aF e3
def l8(f1 f2:EF):AF:=λv lo H Q=>f1 lo H λa H1=>f2 lo H1 λb H2=>Lf (zE a b v H2) λH3=>Q lo H3
theorem AV.sub(h1:EV C r env e1 f1)(h2:EV C r env e2 f2):AV C r env (.Subscript e1 e2 pos) (l8 f1 f2):=by
 intro A s ρ H lo u v Q hr S F rv e
 rw[assign_Subscript]
 exact zzB (bz (h1.run hr S F e λS1 N1 r1 e=>zzB (bz (h2.run hr S1 (F.nx N1) e λS2 N2 r2 e=>e.elim λH3 g3 q=>
  zzB (ie (zzB (bz (vJ S2 (r1.nx N2) r2 ((rv.nx N1).nx N2) g3 λa S3 N3=>wpAny_release ⟨S3,(N1.trans N2).wr.trans (N3 _),((F.nx N1).nx N2).nx (N3 _),q⟩))))))))
def qR:EF:=λq H Q=>Q (.ref H.length) (H++[.dict 0 λq=>Option.none])
theorem EV.dict0{pos}:EV C r env (.Dict [] [] pos) qR:=λA s ρ H lo Q hr S F e=>
 wpAny_Dict_empty ⟨S.alloc {cls:=.type "dict",data:=.dict #[]} (.dict 0 λq=>Option.none) ⟨rfl,rfl,[],⟨_,#[],0,Heap.get?_push_size _ rfl,⟨rfl,rfl,rfl⟩,rfl,λq he=>by simp at he,.nil,by simp⟩,Nat.le_refl _,λk=>trivial⟩,.alloc _,VR.ref (l:=⟨s.heap.objs.size,s.heap.objs.size,Option.none⟩) (by refine rwR S.len ?_;simp),e⟩
noncomputable abbrev CF:=ae V->MH->EK->Prop
def Keeps(C:Cx)(f:bx):Prop:=∀ h:pa,(∀ b o,C.base.heap.get? b=aa o->h.get? b=aa o)->∃ k,(k=Keeper.frame\/k=Keeper.machine\/k=Keeper.boundFrame)/\mx C.M h (keeperOf f) k
structure CV(C:Cx)(r:Nat)(f:bx)(g:CF):Prop where
 keep:Keeps C f
 call:∀ {A:gj}{s:aw}{ρ:ae Lc}{H:MH}{us:ae bx}{vs:ae V}{Q:EK},Room r A->Sim C H ρ s->VRs ρ s.heap us vs->g vs H Q->
  ax C.M A (PySem.call f us) (b5 C ρ s Q) NoE s
theorem c9{id:qt}:Keeps C (.builtin id):=λh q=>⟨.machine,.inr (.inl rfl),.now⟩
theorem eY{id:qt}:Keeps C (.type id):=λh q=>⟨.machine,.inr (.inl rfl),.now⟩
def lf(g:ae V->MH->aj (V×MH)):CF:=λvs H Q=>Lp (g vs H) Q
theorem CV.of(hk:Keeps C f)(h:∀ {A:gj}{s:aw}{ρ:ae Lc}{H:MH}{us:ae bx}{vs:ae V}{v:V}{H':MH},Room r A->Sim C H ρ s->VRs ρ s.heap us vs->g vs H=aa (v,H')-> ax C.M A (PySem.call f us) (EPo C ρ s H' v) NoE s):CV C r f (lf g):=⟨hk,λhr S hu q=>q.elim λp e q=>wmN (h hr S hu e) λa a p=>p.post q⟩
def mU(env:Env)(es:ae Expr):Prop:=(es= []\/∃ e rest,es=e::rest/\eh es env=(am,jl e env)::eh rest env)/\∀ pos,(mq pos (eh es env)).any (·.1)=am
theorem lI(h:EVs C r env es fs)(hf:mU env es)(hr:Room r A)(S:Sim C H ρ s)(F:Fm C env ρ s lo)(e:fs lo H Q):ax C.M A (evalArgs f ak (mq pos (eh es env)) []) (λa s'=>a.kw= []/\wU C ρ s Q a.pos s') NoE s:=by
 have h1:=h (pos:=pos) hr S F e
 rcases hf.1 with rfl |⟨e1,rest,rfl,he⟩
 ·unfold evalArgs
  refine(?_:ax C.M A (spliced [] >>=_) _ _ s)
  exact zzB (wmN h1 λvs s' q=>zzB (zzP (bz (zzB (zzP (zzB (zzP (zzP ⟨rfl,q⟩))))))))
 ·rw[he]at h1 ⊢
  exact evalArgs_plain (wmN h1 λb b q=>⟨rfl,q⟩)
def Glo(C:Cx)(x:Str)(f:bx):Prop:=∃ mg,C.base.heap.Ns gh mg/\(mg x=aa f\/(mg x=none/\∃ mb,C.base.heap.Ns kz mb/\mb x=aa f))
theorem kW{h h':pa}{a:dv}(hn:h.Ns a m)(hk:∀ b o,h.get? b=aa o->h'.get? b=aa o):h'.Ns a m:=let ⟨o,es,ep,ho,q⟩:=hn;⟨o,es,ep,hk _ _ ho,q⟩
theorem lV(hg:Glo C x f)(hk:env.kindOf x=aa .globalImplicit)(hd:(x==("__debug__" :Str))=am)(S:Sim C H ρ s)(F:Fm C env ρ s lo)(h:Q f s):ax C.M A (jl (.Name x pos) env) Q NoE s:=by
 refine xEA hg λmg hmg hx=>?_
 have hG:s.heap.Ns env.globals mg:=rwL F.gl (kW hmg S.keep)
 refine Name_function_global F.fn hk ?_ hd
 rcases hx with hx |⟨hx,mb,hmb,hb⟩
 ·exact loadGlobal_global hG hx h
 ·exact loadGlobal_builtin hG hx (rwL F.bi (kW hmb S.keep)) hb h
def aL(g:CF)(fs:EFs):EF:=λlo H Q=>fs lo H λvs H1=>g vs H1 Q
theorem mP(hf:CV C r f g)(ha:EVs C r env es fs)(hfl:mU env es)(hr:Room r A)(S:Sim C H ρ s)(F:Fm C env ρ s lo)(r1:VRs ρ s.heap first fv)(q:fs lo H λvs H1=>g (fv++vs) H1 Q):ax C.M A (zi pos f first (mq pos (eh es env)) []) (b5 C ρ s Q) NoE s:=qi (P:=λh=>∀ b o,C.base.heap.get? b=aa o->h.get? b=aa o) (by rw[hfl.2];rfl) hf.keep (wmN (lI ha hfl hr S F q) λa s1 p=>by
  obtain⟨ps,kw⟩:=a
  obtain⟨e,S1,N1,rs,q⟩:=p
  exact rwL e ⟨S1.keep,wmN (hf.call hr S1 ((r1.nx N1).append rs) q) λc c p=>p.from N1⟩)
theorem EV.call(hf:CV C r f g)(hg:Glo C x f)(ha:EVs C r env es fs)(hfl:mU env es)(hk:env.kindOf x=aa .globalImplicit)(hd:(x==("__debug__" :Str))=am):EV C r env (.Call (.Name x np) es [] pos) (aL g fs):=λq q q q q q hr S F e=>oz (lV hg hk hd S F (mP hf ha hfl hr S F .nil e))
theorem fH{P:bx->aw->Prop}(hbase:kr o name env (jl o env)=jl o env)(hfew:((mq pos (eh args env)).all (λx=> !x.1) && (backToKw pos (za [] env)).all (λx=>x.1.isSome) && decide (args.length+([]:ae yk).length+(if ([]:ae yk).isEmpty then 0 else 1)<30))=ak)(hline:(apos.endLine==pos.line)=ak)(h:ax C.M A (jl o env) (λov s₁=>∀ pl,ax C.M A (getMethod ov name pl) (λq s₂=>ax C.M A (zi pos q.1 q.2 (mq pos (eh args env)) []) Q E s₂) E s₁) E s):ax C.M A (jl (.Call (.Attribute o name apos) args [] pos) env) Q E s:=by
 rw[arm_eval_Call,hbase]
 refine zzB (ir h (λov s₁ h₁=>(zzB (ie ?_))) λa a e=>e)
 have hform:methodCallForm (args.length+([]:ae yk).length) (mq pos (eh args env)) (backToKw pos (za [] env))=ak:=hfew
 have hpos:methodCallPos ak o env apos pos=pure pos:=by unfold methodCallPos;simp [hline]
 unfold methodCall
 exact rwL hform (zzB (bz (ir (h₁ _) (λq s₂ h₂=>(zzB (kg hpos h₂))) λa a e=>e)))
structure gK(env:Env)(o:Expr)(name:Str)(apos pos:Pos)(args:ae Expr):Prop where
 base:kr o name env (jl o env)=jl o env
 few:((mq pos (eh args env)).all (λx=> !x.1) && (backToKw pos (za [] env)).all (λx=>x.1.isSome)
   && decide (args.length+([]:ae yk).length+(if ([]:ae yk).isEmpty then 0 else 1)<30))=ak
 line:(apos.endLine==pos.line)=ak
theorem nD{id:qt}{K:bx->aw->Prop}(ho:EV C r env o f)(sh:gK env o name apos pos args)(slot:Slot "list" name id)(hty:tw (.builtin id)=pure (.type "method_descriptor"))(hr:Room r A)(S:Sim C H ρ s)(F:Fm C env ρ s lo)(e:f lo H Q)(hQ:∀ v H1,Q v H1->∃ i vs,v.rf=aa i/\H1[i]? =aa (.list vs))(h:∀ {s1 ρ1 l i vs xs n H1},Sim C H1 ρ1 s1->Nx ρ noW s ρ1 s1->jN H1 ρ1 s1 i l vs xs n->Q (.ref i) H1->ax C.M A (zi pos (.builtin id) [.ref l.a] (mq pos (eh args env)) []) K NoE s1):ax C.M A (jl (.Call (.Attribute o name apos) args [] pos) env) K NoE s:=fH (P:=λb b=>vt) sh.base sh.few sh.line (ho.run hr S F e λS1 N1 r1 q pl=>by
  refine iW (hQ _ _ q) λi vs hi hv=>dY (r1.toRef hi) λl hv' z40 g=>rwL z40 ?_
  subst hv'
  exact xEE (iD S1 g hv) λxs n O=>getMethod_builtin ⟨_,O.x,rfl⟩ PySem.F.plainAttrs_list slot hty (λa e=>by cases e;exact⟨_,O.x,rfl⟩) (h S1 N1 O q))
def eM1(f g:EF)(k:Nat->ae V->V->MH->EK->Prop):EF:=λlo H Q=>f lo H λa H1=>Lf a.rf λi=>(∃ vs,H1[i]? =aa (.list vs))/\g lo H1 λv H2=>Lf (H2[i]?.bind MO.own) λvs=>k i vs v H2 Q
def b9(f g:EF):EF:=eM1 f g λi vs v H2 Q=>vs.length<1000000/\Q .none (H2.set i (.list (vs++[v])))
theorem EV.append(ho:EV C r env o f)(he:EV C r env e g)(sh:gK env o "append" apos pos [e])(ht:mq pos (eh [e] env)= [(am,jl e env)]):EV C r env (.Call (.Attribute o "append" apos) [e] [] pos) (b9 f g):=λa a a a a a hr S F q=>nD ho sh PySem.F.slot_list_append PySem.F.type_list_append hr S F q (λv H1 q=>q.elim λi hi q=>⟨i,q.1.choose,hi,q.1.choose_spec⟩) λS1 N1 O q=>by
  refine rwL ht (PySem.P.append_list (he.run hr S1 (F.nx N1) q.2 λ{a s2 a a a} S2 N2 r2 q=>q.elim λvs hv q=>(xEE (iD S2 (aT N2.pre O.g) (j6 hv)) λxs n O2=>?_)))
  have st:=O2.put (k:=s2.toks) S2 (λxs=>xs.push _) (by simpa using O2.r.append (.cons r2 .nil))
  exact⟨xs,n,by refine rwL eu (rwL O2.r.sz ?_);omega,O2.x,st.1,(N1.trans N2).trans (st.2 _),.none,q.2⟩
def eExt(f g:EF):EF:=eM1 f g λi vs v H2 Q=>Lf (own H2 v) λws=>vs.length+ws.length<1000000/\Q .none (H2.set i (.list (vs++ws)))
theorem rE(h:n<1000000):Builtin.List.listTooLong n=am:=by
 unfold Builtin.List.listTooLong
 exact rwL eu (cc (A8 h))
theorem EV.extend(ho:EV C r env o f)(he:EV C r env e g)(sh:gK env o "extend" apos pos [e])(ht:mq pos (eh [e] env)= [(am,jl e env)]):EV C r env (.Call (.Attribute o "extend" apos) [e] [] pos) (eExt f g):=λb b b b b b hr S F q=>nD ho sh PySem.F.slot_list_extend PySem.F.type_list_extend hr S F q (λv H1 q=>q.elim λi hi q=>⟨i,q.1.choose,hi,q.1.choose_spec⟩) λS1 N1 O q=>by
  refine rwL ht (PySem.P.extend_list (he.run hr S1 (F.nx N1) q.2 λ{b s2 b b b} S2 N2 r2 q=>q.elim λvs hv q=>q.elim λws hw q=>(xEE (iD S2 (aT N2.pre O.g) (j6 hv)) λxs n O2=>m7 (own_is S2 r2 hw) λi' l' xs' n' b z41 O3=>(rwL z41 ?_))))
  have hsz:=O2.r.sz;have hsz':=O3.r.sz
  have st:=O2.put (k:=s2.toks) S2 (λxs=>xs++xs') (by simpa using O2.r.append O3.r)
  refine⟨l'.a,xs,xs',n,n',by rw[eu];omega,by rw[eu];omega,rwL (rE (by omega)) ?_,rfl,O2.x,O3.x,st.1,(N1.trans N2).trans (st.2 _),.none,q.2⟩;simp
def eM0(f:EF)(k:Nat->ae V->MH->EK->Prop):EF:=λlo H Q=>f lo H λa H1=>Lf a.rf λi=>Lf (H1[i]?.bind MO.own) λvs=>vs.length<1000000/\k i vs H1 Q
def wA(f:EF):EF:=eM0 f λi vs H1 Q=>Lf vs[vs.length-1]? λv=>Q v (H1.set i (.list (vs.eraseIdx (vs.length-1))))
theorem VRs.erase:∀ {us:ae bx}{vs:ae V} (j:Nat),VRs ρ h us vs->VRs ρ h (us.eraseIdx j) (vs.eraseIdx j)
 |_,_,_,.nil=>.nil
 |_,_,0,.cons a b=>b
 |_,_,j+1,.cons a b=>.cons a (VRs.erase j b)
theorem jN.same(O:jN H ρ s i l vs xs n)(e:H[i]?.bind MO.own=aa ws):ws=vs:=by
 rw[O.h]at e;exact(Option.some.inj e).symm
set_option tactic.hygienic true in
theorem EV.pop(ho:EV C r env o f)(sh:gK env o "pop" apos pos []):EV C r env (.Call (.Attribute o "pop" apos) [] [] pos) (wA f):=λa a a a a a hr S F q=>nD ho sh PySem.F.slot_list_pop PySem.F.type_list_pop hr S F q (λv H1 q=>q.elim λi hi q=>q.elim λvs hv a=>⟨i,vs,hi,j6 hv⟩) λ{s1 ρ1 l i vs xs n H1} S1 N1 O q=>by
  refine q.elim λi' hi q=>cyS hi λzq=>?_;subst zq
  refine q.elim λws hw q=>?_
  obtain rfl:=O.same hw
  refine q.2.elim λv hv q2=>xEA (O.r.get hv) λu hu ru=>?_
  have hsz:=O.r.sz
  refine PySem.P.pop_list O.x (y:=u) (by refine rwL hsz ?_;simpa using hu) ?_ (by refine rwL eu ?_;omega)
  have st:=O.put (k:=s1.toks) S1 (vs':=ws.eraseIdx (ws.length-1)) (λys=>ys.eraseIdxIfInBounds (xs.size-1)) (by
   refine rwL hsz ?_
   have:=VRs.erase (ws.length-1) O.r
   have e:(xs.eraseIdxIfInBounds (ws.length-1)).toList=xs.toList.eraseIdx (ws.length-1):=by
    unfold Array.eraseIdxIfInBounds
    split
    ·exact rwL Array.toList_eraseIdx rfl
    ·rename_i hh;exact rwL (List.eraseIdx_of_length_le (by simp;exact A9 hh)) rfl
   exact rwL e this)
  exact⟨st.1,N1.trans (st.2 _),ru.nx (st.2 noW),q2⟩
def mE(vs:ae V):aj (ae Int):=vs.mapM Ti
theorem xQ(r:VRs ρ h us vs):∀ {is:ae Int},mE vs=aa is->∃ ts:ae Tok,ts.length=is.length/\us=(is.zip ts).map λx=>Value.int x.1 x.2:=r.ind (P:=λus vs=>∀ {is:ae Int},mE vs=aa is->∃ ts:ae Tok,ts.length=is.length/\us=(is.zip ts).map λx=>Value.int x.1 x.2) (λe=>cxS e ⟨[],rfl,rfl⟩) λ{u us v vs} a q ih {is} e=>by
  simp only[mE,xj,yj,aq,pure_def,Option.some.injEq]at e
  refine aAd e λi h1 js h2 z42=>?_;clear e;subst z42
  exact xEA (ih h2) λts h3 h4=>VR.ti (P:=λu=>∃ ts:ae Tok,ts.length=(i::js).length/\u::_=((i::js).zip ts).map λx=>Value.int x.1 x.2) a h1 λt=>⟨t::ts,ei (·+1) h3,ei (Value.int i t::·) h4⟩
def pRng(C:Cx):ItP C (Int×Nat×Int) where
 nx:=λit H=>aa (match it with | (x,n+1,c)=>aa (.int x,(x+c,n,c)) | (_,0,_)=>none)
 rel:=λρ s it a=>IsRangeIter s.heap a it.1 it.2.1 it.2.2
 T:="range_iterator"
 own:=by decide
 mono:=λh1 e i hk=>hk _ h1
 obj:=λh1=>⟨_,h1,rfl,by simp [aX]⟩
 item:=by
  rintro A s ρ H ⟨x,n,c⟩ a v it' Q hh S h1 e k
  cases n with
  |succ n=>
   cases e
   refine wpAny_pyNext_range_item h1 (by simp) λh' h2 hs=>k _ h' _ hs (.int _ _) λs' hs' im=>?_
   subst hs'
   simpa using h2
  |zero=>cases e
 fin:=by
  rintro A s ρ H ⟨x,n,c⟩ a Q hh S h1 e k
  cases n with
  |succ n=>cases e
  |zero=>exact wpAny_pyNext_range_end hh h1 (by simp) λh' he=>k h' he
noncomputable abbrev hF(C:Cx):ItK C:=(pRng C).it
def V.rn:V->aj (Int×Int×Int) | .rng a b c=>aa (a,b,c) |_=>Option.none
theorem VR.toRng(r:VR ρ h u v)(e:v.rn=aa p):∃ a t1 t2 t3,u= .ref a/\IsRange h a p.1 p.2.1 p.2.2 t1 t2 t3:=by
 cases v with
 |rng a b c=>exact cxSP e r.inv
 |_=>first |exact aF e |cases e
def rOk(a b c:Int):fq:=decide (-1000000<a) && decide (a<1000000) && decide (-1000000<b) && decide (b<1000000) && (c==1 || c== -1)
def pV(a b c:Int):Nat:=bif c==1 then(b-a).toNat else(a-b).toNat
theorem rOk_1{a b:Int}(h:rOk a b c=ak): -1000000<a/\a<1000000/\ -1000000<b/\b<1000000/\(c=1\/c= -1):=by
 have h1:=dp.mp h
 have h2:=dp.mp h1.1
 have h3:=dp.mp h2.1
 have h4:=dp.mp h3.1
 exact⟨dx h4.1,dx h4.2,dx h3.2,dx h2.2,(Bool.or_eq_true_iff.mp h1.2).imp uh uh⟩
theorem rSz(a b:Int):Builtin.Range.rangeSize a b 1=((b-a).toNat:Int):=by
 unfold Builtin.Range.rangeSize
 refine rwL (bo (by decide)) ?_
 by_cases q:a<b
 ·rw[bo q,Int.ediv_one,Int.sub_add_cancel]
  exact(Int.toNat_of_nonneg (ku (oh q))).symm
 ·refine rwL (bc q) (rwL (Int.toNat_of_nonpos (Int.sub_nonpos_of_le (oy.mp q))) ?_);rfl
theorem rSzM(a b:Int):Builtin.Range.rangeSize a b (-1)=((a-b).toNat:Int):=by
 unfold Builtin.Range.rangeSize
 refine rwL (bc (by decide)) (rwL (show-(-1:Int)=1 from rfl) ?_)
 by_cases q:b<a
 ·rw[bo q,Int.ediv_one,Int.sub_add_cancel]
  exact(Int.toNat_of_nonneg (ku (oh q))).symm
 ·refine rwL (bc q) (rwL (Int.toNat_of_nonpos (Int.sub_nonpos_of_le (oy.mp q))) ?_);rfl
theorem w5{a b:Int}(h:rOk a b c=ak):Builtin.Range.rangeSize a b c=(pV a b c:Int)/\Builtin.Range.small a b c=ak/\pV a b c<2000000:=by
 refine xAAAA (rOk_1 h) λh1 h2 h3 h4 z45=>?_
 rcases z45 with rfl |rfl
 ·have hl:(b-a).toNat<2000000:=A10 h1 h4
  refine⟨rSz a b,?_,hl⟩
  unfold Builtin.Range.small
  rw[rSz]
  unfold Builtin.Range.rangeFitsLong
  simp;exact A11 h2 h3 hl
 ·have hl:(a-b).toNat<2000000:=AF1 h2 h3
  refine⟨rSzM a b,?_,hl⟩
  unfold Builtin.Range.small
  rw[rSzM]
  unfold Builtin.Range.rangeFitsLong
  simp;exact AF0 h1 h4 hl
def iR(f:EF):Lo->MH->(Int×Nat×Int->MH->Prop)->Prop:=λlo H Q=>f lo H λv H1=>Lf v.rn λp=>rOk p.1 p.2.1 p.2.2=ak/\Q (p.1,pV p.1 p.2.1 p.2.2,p.2.2) H1
theorem IV.range(h:EV C r env e f):IV (hF C) r env e (iR f):=λa a a a a a hr S F q=>h.run hr S F q λS1 N1 r1 q=>q.elim λp hp q=>by
  refine xAA (w5 q.1) λk1 k2 k3=>nR (r1.toRng hp) λa t1 t2 t3 z46 g=>rwL z46 ?_
  exact wpAny_pyIter_range g k2 (rwL k1 (wT.mk (K:=hF C) (it:=(p.1,pV p.1 p.2.1 p.2.2,p.2.2)) (S1.push _) (N1.trans (.push _)) ⟨_,rfl,rfl,show IsRangeIter _ _ _ _ _ from Heap.get?_push_size _ rfl⟩ (λb hb=>rwL (show b=_ from hb) (cV N1 S1 (bC _))) q.2))
theorem VRs.a1(r:VRs ρ h us [x]):∃ u,us= [u]/\VR ρ h u x:=by cases r with |cons a b=>cases b;exact⟨_,rfl,a⟩
theorem VRs.a2(r:VRs ρ h us [x,y]):∃ u v,us= [u,v]/\VR ρ h u x/\VR ρ h v y:=by cases r with |cons a b=>exact xEA b.a1 λv e c=>⟨_,v,by exact rwL e rfl,a,c⟩
def Tis(vs:ae V):aj (ae Int):=vs.mapM Ti
theorem VRs.ints(r:VRs ρ h us vs)(e:Tis vs=aa is):∃ ts:ae Tok,ts.length=is.length/\us=(is.zip ts).map λx=>Value.int x.1 x.2:=xQ r e
theorem ts1{a:Int}(e:ts.length= [a].length)(h:us=(([a]:ae Int).zip ts).map λx=>Value.int x.1 x.2):∃ t,us= [.int a t]:=by
 match ts,e with
 | [t],_=>exact⟨t,h⟩
theorem tcons{α:Type}{l:ae α}(e:l.length=n+1):∃ a t,l=a::t/\t.length=n:=by
 cases l with
 |nil=>exact bw e.symm (qw _)
 |cons a t=>exact⟨a,t,rfl,Nat.succ.inj e⟩
theorem ts2{a b:Int}(e:ts.length= [a,b].length)(h:us=(([a,b]:ae Int).zip ts).map λx=>Value.int x.1 x.2):∃ t u,us= [.int a t,.int b u]:=by
 refine iW (tcons e) λt l z e1=>?_;subst z
 refine iW (tcons e1) λu l z e2=>?_;subst z
 rw[dq e2]at h
 exact⟨t,u,h⟩
theorem ts3{a b:Int}(e:ts.length= [a,b,c].length)(h:us=(([a,b,c]:ae Int).zip ts).map λx=>Value.int x.1 x.2):∃ t u v,us= [.int a t,.int b u,.int c v]:=by
 refine iW (tcons e) λt l z e1=>?_;subst z
 refine iW (tcons e1) λu l z e2=>?_;subst z
 refine iW (tcons e2) λv l z e3=>?_;subst z
 rw[dq e3]at h
 exact⟨t,u,v,h⟩
theorem aCp{α β:Type}{F:ae α->aj β}{l:ae α}{b:β}(e:F l=aa b)(h0:F []=none)(h2:∀ a c t,F (a::c::t)=none):∃ a,l= [a]:=by
 cases l with
 |nil=>rw[h0]at e;exact aF e
 |cons a l=>cases l with
  |nil=>exact⟨_,rfl⟩
  |cons c l=>rw[h2]at e;exact aF e
theorem rR{α β:Type}{F:ae α->aj β}{l:ae α}{b:β}(e:F l=aa b)(h0:F []=none)(h1:∀ a,F [a]=none)(h2:∀ a c d t,F (a::c::d::t)=none):∃ a c,l= [a,c]:=by
 cases l with
 |nil=>rw[h0]at e;exact aF e
 |cons a l=>exact xEA (p0:=λc=>l= [c]) (p1:=λq=>vt) (let ⟨c,e⟩:=aCp (F:=λl=>F (a::l)) e (h1 a) (h2 a);⟨c,e,trivial⟩) λc e q=>⟨a,c,by exact rwL e rfl⟩
theorem aCo{α β:Type}{F:ae α->aj β}{l:ae α}{b:β}(e:F l=aa b)(h0:F []=none)(h1:∀ a,F [a]=none)(h3:∀ a c,F [a,c]=none)(h2:∀ a c d g t,F (a::c::d::g::t)=none):∃ a c d,l= [a,c,d]:=by
 cases l with
 |nil=>rw[h0]at e;exact aF e
 |cons a l=>exact let ⟨c,d,e⟩:=rR (F:=λl=>F (a::l)) e (h1 a) (h3 a) (h2 a);⟨a,c,d,by exact rwL e rfl⟩
def rngF(H:MH)(is:ae Int):aj (V×MH):=match is with
 | [n]=>aa (.rng 0 n 1,H)
 | [a,b]=>aa (.rng a b 1,H)
 | [a,b,c]=>if c= -1 then aa (.rng a b c,H) else none
 |_=>none
def cY:CF:=lf λvs H=>(Tis vs).bind (rngF H)
theorem l123{α β:Type}{F:ae α->aj β}{l:ae α}{b:β}(e:F l=aa b)(h0:F []=none)(h4:∀ a c d g t,F (a::c::d::g::t)=none):(∃ a,l= [a])\/(∃ a c,l= [a,c])\/∃ a c d,l= [a,c,d]:=by
 cases l with
 |nil=>rw[h0]at e;exact aF e
 |cons a l=>cases l with
  |nil=>exact .inl ⟨_,rfl⟩
  |cons c l=>cases l with
   |nil=>exact .inr (.inl ⟨_,_,rfl⟩)
   |cons d l=>cases l with
    |nil=>exact .inr (.inr ⟨_,_,_,rfl⟩)
    |cons g l=>rw[h4]at e;exact aF e
set_option tactic.hygienic true in
theorem CV.range:CV C r (.type "range") cY:=.of eY λ{A s ρ H us vs v H'} hr S rs e=>by
 refine xEA (aq.mp e) λis hi e=>xEA (rs.ints hi) λts h1 h2=>Or.elim (l123 (F:=rngF H) e rfl λq q q q q=>rfl) (λz=>?_) λz=>Or.elim z (λz=>?_) λz=>?_
 ·refine xE z λa z=>?_;subst z;exact xE (ts1 h1 h2) λt z47=>rwL z47 (cxSP e (call_range_1 ⟨ρ,(S.push _).toks _,(Nx.push _).trans (.toks _),.rng (Heap.get?_push_size _ rfl)⟩))
 ·refine xEE z λa b z=>?_;subst z;exact xEE (ts2 h1 h2) λt u z48=>rwL z48 (cxSP e (call_range_2 ⟨ρ,(S.push _).toks _,(Nx.push _).trans (.toks _),.rng (Heap.get?_push_size _ rfl)⟩))
 ·refine vC z λa b c z=>?_;subst z;refine vC (ts3 h1 h2) λt u w z48=>rwL z48 ?_
  replace e:=show (if _ then _ else _)=_ from e
  split at e
  ·rename_i z49
   subst z49
   exact cxSP e (call_range_3 (by decide) ⟨ρ,(S.push _).toks _,(Nx.push _).trans (.toks _),.rng (Heap.get?_push_size _ rfl)⟩ (.inl (PyProof.noPylong_small (by decide))))
  ·exact aF e
theorem EPo.ext(S:Sim C H ρ s)(hk:∀ b o,s.heap.get? b=aa o->h'.get? b=aa o)(rv:VR ρ s.heap x v):EPo C ρ s H v x {s with heap:=h',toks:=k}:=⟨ρ,S.ext hk,.ext hk,rv.mono (cx _) (eO hk)⟩
def one(vs:ae V):aj V:=match vs with | [v]=>aa v |_=>none
theorem j7(r:VRs ρ h us vs)(e:one vs=aa v):∃ u,us= [u]/\VR ρ h u v:=by
 refine xE (aCp (F:=one) e rfl λq q q=>rfl) λa z=>?_;subst z;exact cxS e r.a1
def cLen:CF:=lf λvs H=>(one vs).bind λv=>(lst H v).bind λxs=>if xs.length<1000000 then aa (.int xs.length,H) else none
theorem CV.len:CV C r (.builtin "len") cLen:=.of c9 λ{A s ρ H us vs v H'} hr S rs e=>by
 refine xEA (aq.mp e) λx hx e=>xEA (aq.mp e) λxs hl e=>xEA (j7 rs hx) λu z49 ru=>rwL z49 ?_
 split at e
 ·first |exact aF e |cases e
  refine cC (cJ S ru hl) λad ys z50 h2 h3=>rwL z50 ?_
  have:=h3.sz
  exact call_len_list h2 (by omega) (rwL this (.tok S (.int _ _)))
 ·first |exact aF e |cases e
def c2F(f:Int->Int->Int)(H:MH)(is:ae Int):aj (V×MH):=match is with | [a,b]=>aa (.int (f a b),H) |_=>none
def c2(f:Int->Int->Int):CF:=lf λvs H=>(Tis vs).bind (c2F f H)
theorem CV.c2(h:∀ {A:gj}{s:aw}{a b:Int}{t u:Tok}{Q:bx->aw->Prop},A.handled=none->(∀ h' tk t,(∀ b o,s.heap.get? b=aa o->h'.get? b=aa o)->Q (.int (f a b) t) {s with heap:=h',toks:=tk})->
  ax C.M A (PySem.call (.builtin x) [.int a t,.int b u]) Q NoE s):CV C r (.builtin x) (c2 f):=CV.of c9 λ{A s ρ H us vs v H'} hr S rs e=>by
 refine xEA (aq.mp e) λis hi e=>xEA (rs.ints hi) λts h1 h2=>xEE (rR (F:=c2F f H) e rfl (λq=>rfl) λq q q q=>rfl) λa b z=>?_;subst z
 exact xEE (ts2 h1 h2) λt u z51=>rwL z51 (cxSP e (h hr.1 λh' tk t hk=>.ext S hk (.int _ _)))
def wK:CF:=c2 max
theorem CV.max:CV C r (.builtin "max") wK:=CV.c2 λ{A s a b t u Q} hh k=>max_two_ints hh λh' tk hk=>by
 by_cases q:b>a
 ·rw[bo q];have:=k h' tk u hk;rwa [Int.max_eq_right (oh q)]at this
 ·rw[bc q];have:=k h' tk t hk;rwa [qh (oy.mp q)]at this
def m6:CF:=c2 min
theorem CV.min:CV C r (.builtin "min") m6:=CV.c2 λ{A s a b t u Q} hh k=>min_two_ints hh λh' tk hk=>by
 by_cases q:b<a
 ·rw[bo q];have:=k h' tk u hk;rwa [Int.min_eq_right (oh q)]at this
 ·rw[bc q];have:=k h' tk t hk;rwa [Int.min_eq_left (oy.mp q)]at this
def cSum:CF:=lf λvs H=>(one vs).bind λv=>(lst H v).bind λxs=>(mE xs).map λis=>(.int is.sum,H)
theorem CV.sum:CV C r (.builtin "sum") cSum:=.of c9 λ{A s ρ H us vs v H'} hr S rs e=>by
 refine xEA (aq.mp e) λx hx e=>xEA (aq.mp e) λxs hl e=>xEA (dy.mp e) λis hi e=>cxP e (xEA (j7 rs hx) λu z52 ru=>rwL z52 (cC (cJ S ru hl) λad ys z53 h2 h3=>rwL z53 (xEA (xQ h3 hi) λts ht1 ht2=>?_)))
 have hys:ys=intItems (is.zip ts).toArray:=by
  apply Array.toList_inj.mp
  refine rwL ht2 ?_
  simp [intItems]
 rw[hys]at h2
 refine sum_intListG hr.1 h2 λh' tk t' hk=>?_
 have:preSum (numAt (is.zip ts).toArray) (is.zip ts).toArray.size=is.sum:=by
  rw[preSum_eq,List.take_of_length_le (by simp)]
  congr 1
  exact rwL (List.map_fst_zip (Nat.le_of_eq ht1.symm)) rfl
 exact rwL this (.ext S hk (.int _ _))
def cSet:CF:=lf λvs H=>if vs.isEmpty then aa (.ref H.length,H++[.eset]) else none
set_option tactic.hygienic true in
theorem CV.set:CV C r (.type "set") cSet:=.of eY λ{A s ρ H us vs v H'} hr S rs e=>by
 split at e
 ·first |exact aF e |cases e
  cases rs with
  |nil=>exact call_set_0 λled=>⟨_,S.alloc _ .eset ⟨rfl,rfl,_,_,Heap.get?_push_size _ rfl,by cases led<;>decide⟩,.alloc _,VR.ref (l:=⟨s.heap.objs.size,s.heap.objs.size,none⟩) S.last⟩
  |cons _ _=>rename_i h;cases h
 ·first |exact aF e |cases e
theorem Sim.grown(S:Sim C H ρ s)(hk:∀ b o,s.heap.get? b=aa o->h'.get? b=aa o)(hx:IsL h' s.heap.objs.size xs n)(hv:VRs ρ h' xs.toList vs):EPo C ρ s (H++[.list vs]) (.ref H.length) (.ref s.heap.objs.size) {s with heap:=h',toks:=k}:=let g:=S.grow (k:=k) (l:=⟨s.heap.objs.size,s.heap.objs.size,none⟩) (m:=.list vs) hk (bC _) (bC _) rfl ⟨rfl,rfl,xs,n,hx,hv.mono (ou _ _) (.refl _)⟩
 ⟨_,g.1,g.2 _,VR.ref (l:=⟨s.heap.objs.size,s.heap.objs.size,none⟩) S.last⟩
def jW(a c:Int):Nat->ae V
 |0=>[]
 |n+1=>.int a::jW (a+c) c n
theorem aF7(a c:Int)(n:Nat):jW a c (n+1)= .int a::jW (a+c) c n:=rfl
theorem tR:∀ (n:Nat) (a c:Int) (us:ae bx),us.length=n->(∀ (i:Nat) (u:bx),us[i]? =aa u->∃ t,u=Value.int (a+(i:Int)*c) t)->VRs ρ h us (jW a c n)
 |0,a,c,[],_,_=>VRs.nil
 |0,a,c,_::_,hl,_=>by simp at hl
 |n+1,a,c,[],hl,_=>by simp at hl
 |n+1,a,c,u::us,hl,hu=>by
  refine xE (hu 0 u rfl) λt e=>?_
  simp at e
  refine rwL e (VRs.cons (VR.int _ _) (tR n (a+c) c us (by simpa using hl) λi u h=>(xE (hu (i+1) u (by simpa using h)) λt e=>⟨t,e.trans ?_⟩)))
  congr 1
  rw[sv]
  congr 1
  simp only[Int.natCast_add,Int.add_mul]
  omega
def aEq(vs:ae V)(H:MH):aj (V×MH):=(one vs).bind λv=>match v.rn with
 |some p=>if rOk p.1 p.2.1 p.2.2 then mkL (jW p.1 p.2.2 (pV p.1 p.2.1 p.2.2)) H else none
 |none=>(lst H v).bind λxs=>mkL xs H
def cList:CF:=lf aEq
set_option tactic.hygienic true in
theorem aGo(hr:Room r A)(S:Sim C H ρ s)(rs:VRs ρ s.heap us vs)(e:aEq vs H=aa (v,H')):ax C.M A (PySem.call (.type "list") us) (EPo C ρ s H' v) NoE s:=by
 refine xEA (aq.mp e) λx hx e=>xEA (j7 rs hx) λu z54 ru=>rwL z54 ?_
 split at e
 ·rename_i p hp
  split at e
  ·rename_i hok
   refine kZ e λhlen e=>?_
   cases e
   refine xAA (w5 hok) λk1 k2 k3=>nR (ru.toRng hp) λa t1 t2 t3 z55 g=>rwL z55 ?_
   exact call_list_range hr.1 g k2 k1 (by omega) λh' tk acc' c' hk hS hacc=>S.grown hk hS (tR _ _ _ _ (by simpa using hacc.1) λi u hu=>hacc.2 i u (by simpa using hu))
  ·first |exact aF e |cases e
 ·refine xEA (aq.mp e) λxs hl e=>kZ e λhlen e=>?_
  cases e
  refine cC (cJ S ru hl) λad ys z56 z57 h3=>rwL z56 ?_;obtain⟨o,ho,hc,n,hd⟩:=z57
  have:=h3.sz
  exact call_list_seq ad (.inl rfl) ho hc hd (λh' c' hk hD=>S.grown (k:=s.toks) hk hD (h3.mono (cx _) (eO hk))) (rwL eu (A12 hlen this))
theorem CV.list:CV C r (.type "list") cList:=.of eY aGo
open PySem PySem.W PyProof.Rows PySem.Calls PyProof
def PyData.kids:mh->aj (fq×ae mh) | .tuple xs=>aa (ak,xs) | .list xs=>aa (am,xs) |_=>none
def inB(H:MH)(a b:V):aj fq:=(rd H eqD a).bind λd=>((rd H eqD b).bind PyData.kids).bind λp=>if PyData.canLayAll0 p.2 && d.canLay0 && decide (d.depth<50) then aa (p.2.any λy=>PyData.eqv y d) else none
def oIn(f:fq->fq):OpF:=λa b H=>(inB H a b).map λt=>(.bool (f t),H)
theorem Room.deep(h:Room r A)(hm:m<50):A.units+1+min n m<cLine:=by
 have:=h.2.2
 have h2:min n m<=m:=Nat.min_le_right _ _
 exact(A28 hm this:_<9900)
theorem aGr(e:PyData.kids d=aa (t,xs)):d=bif t then .tuple xs else .list xs:=by
 cases d with
 |tuple ys=>refine cxSP e ?_;rfl
 |list ys=>refine cxSP e ?_;rfl
 |_=>first |exact aF e |cases e
set_option tactic.hygienic true in
theorem OpR.in2(h1:∀ {A:gj}{s:aw}{a b:bx}{d:mh}{xs:ae mh}{as bs:ae dv}{Q:bx->aw->Prop},xv s.heap b (.tuple xs) bs->xv s.heap a d as->PyData.canLayAll0 xs=ak->d.canLay0=ak->(∀ n,A.units+1+min n d.depth<cLine)->Q (.bool (f (xs.any λy=>PyData.eqv y d))) s->ax C.M A (op a b) Q NoE s)(h2:∀ {A:gj}{s:aw}{a b:bx}{d:mh}{xs:ae mh}{as bs:ae dv}{Q:bx->aw->Prop},xv s.heap b (.list xs) bs->xv s.heap a d as->PyData.canLayAll0 xs=ak->d.canLay0=ak->(∀ n,A.units+1+min n d.depth<cLine)->Q (.bool (f (xs.any λy=>PyData.eqv y d))) s->ax C.M A (op a b) Q NoE s):OpR C r op (oIn f):=by
 refine OpR.of ?_
 intro A s ρ H a b va vb v H' hr S ra rb e
 refine xEA (dy.mp e) λt e e3=>xEA (aq.mp e) λd hd e=>xEA (aq.mp e) λz64 hx e=>?_;obtain⟨tt,xs⟩:=z64
 refine xEA (aq.mp hx) λd2 hd2 hk=>?_
 split at e
 ·rename_i hs
  refine xE (g9 S _ ra hd) λas r1=>xE (g9 S _ rb hd2) λbs r2=>?_
  rw[aGr hk]at r2
  refine cyS e λzq=>?_;subst zq
  refine cxP e3 ?_
  simp only[Bool.and_eq_true,decide_eq_true_eq]at hs
  cases tt with
  |true=>exact h1 r2 r1 hs.1.1 hs.1.2 (λn=>hr.deep hs.2) (.here S (.bool _))
  |false=>exact h2 r2 r1 hs.1.1 hs.1.2 (λn=>hr.deep hs.2) (.here S (.bool _))
 ·first |exact aF e |cases e
theorem OpR.in_:OpR C r (jx .In) (oIn id):=OpR.in2 (λr2 r1 h1 h2 h3 q=>PySem.SeqAt.in_tuple_reads r2 r1 h1 h2 (h3 _) q) λr2 r1 h1 h2 h3 q=>PySem.SeqAt.in_list_reads r2 r1 h1 h2 (h3 _) q
theorem OpR.notIn:OpR C r (jx .NotIn) (oIn not):=OpR.in2 (λr2 r1 h1 h2 h3 q=>PySem.SeqAt.notIn_tuple_reads r2 r1 h1 h2 (h3 _) q) λr2 r1 h1 h2 h3 q=>PySem.SeqAt.notIn_list_reads r2 r1 h1 h2 (h3 _) q
def V.no:V->fq | .none=>ak |_=>am
theorem VR.noT(r:VR ρ h u v)(e:v.no=ak):u= .none:=by
 cases v with
 |none=>exact r.inv
 |_=>first |exact aF e |cases e
theorem VR.noF(r:VR ρ h u v)(e:v.no=am):u≠ .none:=by
 rintro rfl
 cases v with
 |none=>cases e
 |bool=>exact Value.noConfusion r.inv
 |int=>exact xE r.inv λq h=>Value.noConfusion h
 |str=>exact xE r.inv λq h=>Value.noConfusion h
 |tup=>exact iQ r.inv λq q q h q=>Value.noConfusion h
 |mat=>exact kS r.inv λq q q q q q h q=>Value.noConfusion h
 |ref=>exact xEA r.inv λq h q=>Value.noConfusion h
 |dget=>exact iW r.inv λq q h q=>Value.noConfusion h
 |scon=>exact iW r.inv λq q h q=>Value.noConfusion h
 |rng=>exact nR r.inv λq q q q h q=>Value.noConfusion h
 |raw=>exact Value.noConfusion r.inv
def isV(a b:V)(H:MH):aj fq:=bif b.no then aa a.no else b.rf.bind λj=>bif a.no then aa am else a.rf.bind λi=>if i=j then aa ak else(lst H a).map λq=>am
theorem aBi{j:Nat}(S:Sim C H ρ s)(hi:ρ[i]? =aa li)(hj:ρ[j]? =aa lj)(h:i≠j):li.a≠lj.a:=λe=>S.disj i j li lj hi hj h li.a (.inl rfl) (.inl e)
def IsR(M:zs)(A:gj)(a b:bx)(t:fq)(s:aw):Prop:=∀ Q:bx->aw->Prop,(Q (.bool t) s->ax M A (jx .Is a b) Q NoE s)/\(Q (.bool (!t)) s->ax M A (jx .IsNot a b) Q NoE s)
set_option tactic.hygienic true in
theorem is_ok{a b:bx}(S:Sim C H ρ s)(ra:VR ρ s.heap a va)(rb:VR ρ s.heap b vb)(e:isV va vb H=aa t):IsR C.M A a b t s:=by
 unfold isV at e
 cases hb:vb.no with
 |true=>
  rw[hb]at e
  refine rwL (rb.noT hb) ?_
  cases ha:va.no with
  |true=>rw[ha]at e;exact cxS e (rwL (ra.noT ha) (λQ=>⟨λh=>wpAny_is_self rfl h,λh=>wpAny_isNot_self rfl h⟩))
  |false=>rw[ha]at e;exact cxS e (λQ=>⟨λh=>is_none_ne (ra.noF ha) h,λh=>isnot_none_ne (ra.noF ha) h⟩)
 |false=>
  rw[hb]at e
  refine xEA (aq.mp e) λj hj e=>dY (rb.toRef hj) λlj q z65 g=>rwL z65 ?_
  cases ha:va.no with
  |true=>rw[ha]at e;exact cxS e (rwL (ra.noT ha) (λQ=>⟨λh=>wpAny_is_other rfl (by intro x;cases x) h,λh=>wpAny_isNot_other rfl (by intro x;cases x) h⟩))
  |false=>
   rw[ha]at e
   refine xEA (aq.mp e) λi hi e=>dY (ra.toRef hi) λli q hli g'=>?_
   split at e
   ·rename_i hij
    refine cxS e ?_
    subst hij
    rw[g]at g';refine cyS g' λzq=>rwL zq ?_
    exact rwL hli (λQ=>⟨λh=>wpAny_is_ref_self h,λh=>wpAny_isNot_ref_self h⟩)
   ·rename_i hij
    refine xEA (dy.mp e) λvs hl e=>rwR e (cC (cJ S ra hl) λad xs e1 z66 q=>?_);obtain⟨o,ho,hc,_⟩:=z66
    subst hli
    cases e1
    refine xA (S.live g) λz67 q=>xEA z67 λoj hoj q=>?_
    have hc':o.cls≠ .type "tuple" :=by refine rwL hc ?_;intro x;injection x with x;revert x;decide
    exact λQ=>⟨λh=>wpAny_is_ref_other (aBi S g' g hij) ho hoj hc' h,λh=>wpAny_isNot_ref_other (aBi S g' g hij) ho hoj hc' h⟩
def oIs(f:fq->fq):OpF:=λa b H=>(isV a b H).map λt=>(.bool (f t),H)
theorem OpR.is_:OpR C r (jx .Is) (oIs id):=OpR.of λhr S ra rb e=>xEA (dy.mp e) λt ht e=>cxP e ((is_ok S ra rb ht _).1 (.here S (.bool _)))
theorem OpR.isNot:OpR C r (jx .IsNot) (oIs not):=OpR.of λhr S ra rb e=>xEA (dy.mp e) λt ht e=>cxP e ((is_ok S ra rb ht _).2 (.here S (.bool _)))
def fC:ae (Str×dv):=[("__init__",160),("set_seqs",167),("set_seq1",174),("set_seq2",181),("_SequenceMatcher__chain_b",188),("find_longest_match",196),("get_matching_blocks",203),("get_opcodes",210),("get_grouped_opcodes",218)]
structure SMC(C:Cx):Prop where
 cls:∃ nm q bs sn sub col dd k0 k1 k2 k3 k5,C.base.heap.get? d3=aa (excClassObj nm q d3 241 bs [.type "object"] ak sn sub am col dd k0 k1 k2 k3 k5 "object.__new__")
 ns:∃ mN,C.base.heap.Ns 241 mN/\(∀ x∈c7,mN x=none)/\mN "__getattribute__" =none/\mN "__getattr__" =none/\mN "__setattr__" =none/\∀ p∈fC,mN p.1=aa (.ref p.2)
 fn:∀ p∈fC,∃ o,C.base.heap.get? p.2=aa o/\o.cls= .type "function"
theorem tT:∀ x∈c7,jn (.type "object") x=pure none:=by
 intro x hx
 simp only[c7,cy,dt,wv]at hx
 rcases hx with rfl |rfl |rfl |rfl |rfl |rfl |rfl |rfl |rfl |rfl<;>(rw[fg,dk];kernel_rfl)
theorem aBl:∀ p∈fC,∃ y,jn (.type "object") p.1=pure y:=by
 intro p hp
 simp only[fC,cy,dt,wv]at hp
 rcases hp with rfl |rfl |rfl |rfl |rfl |rfl |rfl |rfl |rfl
 ·exact⟨aa (.builtin "object.__init__"),by rw[fg,dk];kernel_rfl⟩
 all_goals exact⟨none,by rw[fg,dk];kernel_rfl⟩
theorem rU{i:Nat}(S:Sim C H ρ s)(hl:ρ[i]? =aa l)(hH:H[i]? =aa (.inst fs)):∃ m,s.heap.InstFk l.a d3 m/\Within m c7/\∀ x,OV ρ s.heap (m x) (fs x):=nU (S.objs i _ l hH hl) λg ne z77 m h5 h6 h7 h8=>xEAAA z77 λo h1 h2 h3 h4=>⟨m,⟨o,h1,h2,(λc=>by refine rwL h3 ?_;intro q;cases q),.inr ⟨l.d,h4,ne,h5,h6⟩⟩,h7,h8⟩
theorem VR.handed(rv:VR ρ h u v):handedOut u=pure u:=by
 cases rv<;>rfl
def MO.ins:MO->aj (Str->aj V) | .inst fs=>aa fs |_=>none
theorem aCz(e:m.bind MO.ins=aa fs):m=aa (.inst fs):=by
 refine xEA (aq.mp e) λm z78 h2=>rwL z78 ?_
 cases m with
 |inst f=>refine cxS h2 ?_;rfl
 |_=>exact aF h2
def eP(x:Str)(f:EF):EF:=λlo H Q=>f lo H λa H1=>Lf a.rf λi=>Lf (H1[i]?.bind MO.ins) λfs=>Lf (fs x) λv=>Q v H1
theorem rW{i:Nat}{b:fq}{K:bx->aw->Prop}(KK:SMC C)(hx:x∈c7)(S:Sim C H ρ s)(hl:ρ[i]? =aa l)(hH:H[i]? =aa (.inst fs))(hv:fs x=aa v)(k:∀ u n,VR ρ s.heap u v->K u {s with toks:=n}):ax C.M A (vc (.ref l.a) x b) K E s:=by
 refine dY (rU S hl hH) λm I W hm=>gU KK.cls λnm q bs sn sub col dd k0 k1 k2 k3 k5 hC=>qY KK.ns λmN hn hna hng hga hsa hme=>(hm x).elim hv λu hmx ru=>?_
 obtain⟨hh,g,d,t,os⟩:=s
 exact load_attrFk (S.keep _ _ hC) (kW hn S.keep) hng (hna x hx) (tT x hx) I hmx (VR.handed ru) (k u _ ru)
theorem dK(hb:kr e x env (jl e env)=jl e env)(h:ax (iz prog w) A (jl e env) (λo s1=>ax (iz prog w) A (vc o x ak) Q E s1) E s):ax (iz prog w) A (jl (.Attribute e x pos) env) Q E s:=by
 show ax (iz prog w) A (do
  let o<-kr e x env (jl e env)
  vu pos.atName
  let r<-vv [o] (vc o x ak)
  qx e o r
  pure r) _ _ s
 refine rwL hb (zzB (ir h ?_ λq q z=>z))
 intro o s1 h1
 refine zzB (ie (zzB (bz (ir h1 ?_ λq q z=>z))))
 intro y s2 p
 exact zzB (wpAny_letTemporaryGo (zzP p))
theorem EV.attr(K:SMC C)(hx:x∈c7)(h:EV C r env e f)(hb:kr e x env (jl e env)=jl e env)(ht:∀ o y,qx e o y=pure ()):EV C r env (.Attribute e x pos) (eP x f):=λa a a a a a hr S F q=>dK hb (h.run hr S F q λS1 N1 r1 q=>q.elim λi hi q=>q.elim λfs hf q=>q.elim λv hv q=>dY (r1.toRef hi) λl a z79 g=>rwL z79 (rW K hx S1 g (aCz hf) hv λu n ru=>⟨S1.toks n,N1.trans (.toks n),ru,q⟩))
def fput(fs:Str->aj V)(x:Str)(v:V):Str->aj V:=λy=>if y=x then aa v else fs y
theorem rB(K:SMC C)(hx:x∈c7)(S:Sim C H ρ s)(hl:ρ[i]? =aa l)(hH:H[i]? =aa (.inst fs))(rv:VR ρ s.heap u v):ax C.M A (setAttr (.ref l.a) x u) (λc s'=>Sim C (H.set i (.inst (fput fs x v))) ρ s'/\Nx ρ W s ρ s') NoE s:=by
 refine dY (rU S hl hH) λm I Wi hm=>gU K.cls λnm q bs sn sub col dd k0 k1 k2 k3 k5 hC=>qY K.ns λmN hn hna hng hga hsa hme=>xAAAEA (S.objs i _ l hH hl) λg ne z80 c z81 c=>xEAAA z80 λo h1 h2 h3 h4=>?_;obtain⟨oD,esD,epD,hoD,hdD,_⟩:=z81
 have hbase:C.base.heap.get? l.a=none:=by
  rcases S.ro i l hl with ⟨vs,e⟩ |e
  ·rw[hH]at e;cases e
  ·exact e.1
 have hxC:l.a≠d3:=by intro e;rw[e,hC]at hbase;exact cyM hbase
 obtain⟨hh,gg,d,t,os⟩:=s
 refine store_attrFk PySem.F.store_object (S.keep _ _ hC) (kW hn S.keep) hsa (hna x hx) (tT x hx) hxC I (λh' tk' I' hk hsame=>?_) Wi (by refine rwL eu ?_;decide)
 have kk:∀ b ob,¬l.has b->hh.get? b=aa ob->h'.get? b=aa ob:=λb ob hb e=>hk b ob (λz=>hb (.inl z)) (λo₀ d' e₀ ed=>by
  obtain rfl:=Option.some.inj (h1.symm.trans e₀);obtain rfl:=Option.some.inj (h4.symm.trans ed);exact λz=>hb (.inr z)) e
 have im:Imm hh h':=λb ob e i=>kk b ob (λz=>by
  rcases z with rfl |rfl
  ·rw[h1]at e;refine cyS e λzq=>?_;subst zq;simp [aX,h3]at i
  ·rw[hoD]at e;refine cyS e λzq=>?_;subst zq;simp [aX,hdD]at i) e
 refine aAe (hsame o h1) λo₁ e₁ c₁ dt₁ c dk₁=>xEAAA I' λo' e' c' c hd'=>?_
 obtain rfl:=Option.some.inj (e₁.symm.trans e')
 have hd1:=dk₁ l.d h4
 rcases hd' with ⟨hn0,_⟩ |⟨d',hd',ne',hns',hex'⟩
 ·rw[hd1]at hn0;exact cyM hn0
 obtain rfl:=Option.some.inj (hd1.symm.trans hd')
 have al:∀ b ob,hh.get? b=aa ob->∃ ob',h'.get? b=aa ob':=λb ob e=>by
  by_cases z:l.has b
  ·rcases z with rfl |rfl
   ·exact⟨_,e₁⟩
   ·exact iQ hns' λo2 c c e2 c=>⟨o2,e2⟩
  ·exact⟨ob,kk b ob z e⟩
 refine⟨S.upd (s':=⟨h',gg,d,tk',os⟩) hl hH (by intro _ h;cases h) (λb ob e hb=>kk b ob hb e) im rfl rfl ⟨g,ne,⟨o₁,e₁,c₁.trans h2,dt₁.trans h3,hd1⟩,_,hns',hex',?_,λy=>?_⟩ (by intro _ h;cases h),
  ⟨cx _,λl hl=>by simp at hl,λb ob e ho c=>kk b ob (λz=>ho ⟨l,dm hl,z⟩) e,im,al⟩⟩
 ·intro y hy
  by_cases z:y=x
  ·exact rwL z hx
  ·exact Wi y (by simpa [z] using hy)
 ·unfold fput
  by_cases z:y=x
  ·simp only[z,xk];exact rv.mono (cx _) im
  ·simp only[z,jh];exact(hm y).mono (cx _) im
def eU(x:Str)(f:EF):AF:=λv lo H Q=>f lo H λa H1=>Lf a.rf λi=>Lf (H1[i]?.bind MO.ins) λfs=>Q lo (H1.set i (.inst (fput fs x v)))
theorem AV.attr(K:SMC C)(hx:x∈c7)(h:EV C r env e f):AV C r env (.Attribute e x pos) (eU x f):=by
 intro A s ρ H lo u v Q hr S F rv q
 rw[assign_Attribute]
 exact zzB (bz (h.run hr S F q λS1 N1 r1 q=>q.elim λi hi q=>q.elim λfs hf q=>dY (r1.toRef hi) λl a z82 g=>rwL z82 (zzB (ie (zzB (bz (wmN (rB (W:=noW) K hx S1 g (aCz hf) (rv.nx N1)) λa s2 p=>(wpAny_release ⟨p.1,(N1.trans p.2).wr,F.nx (N1.trans p.2),q⟩))))))))
def dJ(g:CF)(f:EF)(fs:EFs):EF:=λlo H Q=>f lo H λa H1=>Lf a.rf λi=>(∃ ff,H1[i]? =aa (.inst ff))/\fs lo H1 λvs H2=>g (.ref i::vs) H2 Q
theorem zI:∀ p∈fC,p.1∉c7:=by decide+kernel
theorem EV.meth{name:Str}(K:SMC C)(hp:(name,fa)∈fC)(hf:CV C r (.ref fa) g)(ho:EV C r env o f)(ha:EVs C r env es fs)(hfl:mU env es)(sh:gK env o name apos pos es):EV C r env (.Call (.Attribute o name apos) es [] pos) (dJ g f fs):=λa a a a a a hr S F q=>fH (P:=λa a=>vt) sh.base sh.few sh.line (ho.run hr S F q λ{x s1 ρ1 v1 H1} S1 N1 r1 q pl=>q.elim λi hi q=>by
  refine dY (r1.toRef hi) λl a hl g'=>rwL hl (xA q λz83 q=>(xE z83 λff hH=>?_))
  refine dY (rU S1 g' hH) λm I W hm=>gU K.cls λnm q' bs sn sub col dd k0 k1 k2 k3 k5 hC=>qY K.ns λmN hn hna hng hga hsa hme=>xEA (K.fn _ hp) λof hof hfc=>xE (aBl _ hp) λy hy=>?_
  have hsh:m name=Option.none:=by
   cases e:m name with
   |none=>rfl
   |some z=>exact bw (W name (by refine rwL e ?_;intro q;exact cyM q)) (zI _ hp)
  have key:=wmN (E:=NoE) (mP (pos:=pos) hf ha hfl hr S1 (F.nx N1) (.cons (VR.ref g') .nil) q) λa a p=>p.from N1
  obtain⟨hh,gg,d,t,os⟩:=s1
  exact method_ofFk (S1.keep _ _ hC) (kW hn S1.keep) hng hga (hme _ hp) (S1.keep _ _ hof) hfc hy I hsh key)
theorem Sim.iterX(S:Sim C H ρ s)(hk:∀ b o,¬X b->s.heap.get? b=aa o->h'.get? b=aa o)(hi:∀ a o,X a->s.heap.get? a=aa o->¬aX o)(hX:∀ b,X b->¬Own ρ b/\C.base.heap.get? b=none):Sim C H ρ {s with heap:=h',toks:=k}/\NxI ρ X s ρ {s with heap:=h',toks:=k}:=by
 have im:Imm s.heap h':=λb o e i=>Classical.byCases (λq:X b=>bw i (hi b o q e)) λq=>hk b o q e
 refine⟨S.same (λb o e q=>hk b o (λz=>(Or.elim q (λq=>((hX b z).1 q)) λq=>?_)) e) im (λc c e=>e) rfl S.bare,⟨cx _,λl hl=>by simp at hl,λb o e c q=>hk b o q e,im,λb o e q=>⟨o,hk b o q e⟩⟩⟩
 ·rw[(hX b z).2]at q;cases q
inductive EnR(ρ:ae Lc)(h:pa)(it:Nat×Nat):bx->(dv->Prop)->Prop
 |mk {e t l old} (h1:ρ[it.1]? =aa l) (h2:e≠t) (h3:IsEnum h e t it.2 old) (h4:h.IsListIter t l.a it.2):EnR ρ h it (.ref e) (λb=>b=e\/b=t)
inductive EnM(ρ:ae Lc)(h:pa)(it:Nat×Nat):bx->bx->(dv->Prop)->Prop
 |mk {e t l item a} (h1:ρ[it.1]? =aa l) (h2:e≠t) (h3:IsEnumOut h e t it.2 item a) (h4:h.IsListIter t l.a it.2):EnM ρ h it (.ref a) (.ref e) (λb=>b=e\/b=t)
theorem aD1{h:pa}{o2:Obj}(h1:h.get? e=aa o1)(h2:h.get? t=aa o2)(i1: ¬aX o1)(i2: ¬aX o2):∀ b o,(b=e\/b=t)->h.get? b=aa o->¬aX o:=λb o q e'=>by
 rcases q with rfl |rfl
 ·rw[h1]at e';exact cxS e' i1
 ·rw[h2]at e';exact cxS e' i2
theorem rO(h4:o.cls= .type "list_iterator")(h5:o.data= .fields #[x,y]): ¬aX o:=by unfold aX;refine rwL h5 ?_;simp [h4]
def oQ(C:Cx):ItK C where
 σ:=Nat×Nat
 nx:=λit H Q=>Lf (lst H (.ref it.1)) λvs=>Q ((vs[it.2]?).map λv=>(.tup [.int it.2,v],(it.1,it.2+1))) H
 rel:=λρ s it x X=>EnR ρ s.heap it x X
 mid:=λρ s it u x X=>EnM ρ s.heap it u x X
 tg:=λt=>∃ elts k pos,t= .Tuple elts k pos
 need:=0
 mono:=λR p i hk=>by
  cases R with
  |mk h1 h2 h3 h4=>refine xEA h4 λo h4 h5=>?_;exact .mk (aT p h1) h2 (hk _ _ (.inl rfl) h3) ⟨o,hk _ _ (.inr rfl) h4,h5⟩
 alive:=λR b hb=>by
  cases R with
  |mk h1 h2 h3 h4=>
   refine xEA h4 λo h4 h5=>?_
   rcases hb with rfl |rfl
   ·exact⟨_,h3⟩
   ·exact⟨_,h4⟩
 next:=λ{A s ρ H it x X Q r} a hr S R hX q=>by
  refine q.elim λvs hl q=>?_
  cases R with
  |mk h1 h2 h3 hit=>
  refine cC (cJ S (.ref h1) hl) λad xs q1 q2 q3=>?_
  cases q1
  have hi:∀ b o,_->s.heap.get? b=aa o->¬aX o:=let ⟨o,h4,h5,h6⟩:=hit;aD1 h3 h4 (by simp [aX]) (rO h5 h6)
  cases hv:vs[it.2]? with
  |some v=>
   rw[hv]at q
   refine xEA (q3.get hv) λu hu ru=>?_
   refine wpAny_pyNext_enum_item h3 hit q2 (by simpa using hu) h2 λh' a1 a2 a3 a4 a5=>?_
   have st:=S.iterX (h':=h') (k:=s.toks+1) (λb o hb e'=>a5 b o (λz=>hb (.inl z)) (λz=>hb (.inr z)) e') hi hX
   exact .item (it':=(it.1,it.2+1)) st.1 st.2 (.tup a3 (.cons (.int _ _) (.cons (ru.mono (cx _) st.2.imm) .nil))) (.mk h1 h2 a1 a2) q
  |none=>
   rw[hv]at q
   refine wpAny_pyNext_enum_end hr.1 h3 hit q2 (Array.getElem?_eq_none (by rw[q3.sz];exact getElem?_eq_none_iff.mp hv)) λh' he=>?_
   have st:=S.iterX (h':=h') (k:=s.toks) (λb o hb e'=>he b o (λz=>hb (.inr z)) e') hi hX
   exact .done st.1 st.2 q
 lgo:=λ{A s ρ H it x X u target r} hr S M tg hX=>by
  refine vC tg λelts k pos z68=>?_;clear tg;subst z68
  cases M with
  |mk h1 h2 h3 hit=>
  have hi:∀ b o,_->s.heap.get? b=aa o->¬aX o:=let ⟨o,h4,h5,h6⟩:=hit;aD1 h3 h4 (by simp [aX]) (rO h5 h6)
  refine wpAny_letOwnedTupleGo_enum h3 λh' a1 hs=>?_
  have st:=S.iterX (h':=h') (k:=s.toks) (λb o hb e'=>(hs.2 b (λz=>hb (.inl z))).trans e') hi hX
  refine xEA hit λo h4 h5=>?_
  exact⟨st.1,st.2,.mk h1 h2 a1 ⟨o,(hs.2 _ (Ne.symm h2)).trans h4,h5⟩⟩
theorem IV.enum(h:EV C r env e f)(hg:Glo C "enumerate" (.type "enumerate"))(hk:env.kindOf "enumerate" =aa .globalImplicit)(hfl:mU env [e])(he:eh [e] env=(am,jl e env)::eh [] env):IV (oQ C) r env (.Call (.Name "enumerate" np) [e] [] pos) (iL f):=λA s ρ H lo Q hr S F q=>oz (lV hg hk (by decide) S F (qi (P:=λh=>∀ b o,C.base.heap.get? b=aa o->h.get? b=aa o) (by rw[hfl.2];rfl) eY
  (wmN (lI (Q:=λvs H1=>Lf (one vs) λv=>Lf v.rf λi=>(∃ vs,lst H1 (.ref i)=aa vs)/\Q (i,0) H1) (EVs.cons h EVs.nil he) hfl hr S F q) λa s1 p=>by
  obtain⟨ps,kw⟩:=a
  obtain⟨hkw,S1,N1,rs,q⟩:=p
  refine rwL hkw ⟨S1.keep,q.elim λv hv q=>q.elim λi hi q=>(xEA (j7 rs hv) λu hu r1=>(rwL hu (dY (r1.toRef hi) λl z69 z70 g=>?_)))⟩;subst z69;subst z70
  refine xA q λz71 q=>xE z71 λvs hl=>?_
  refine cC (cJ S1 r1 hl) λad xs e q2 q3=>?_
  cases e
  refine call_enumerate_list q2 λh' g1 g2 g3 g4=>wpAny_pyIter_enum g1 ?_
  have fr1:s1.heap.get? (s1.heap.objs.size+1)=none:=by
   cases e':s1.heap.get? (s1.heap.objs.size+1) with
   |none=>rfl
   |some o=>exact bw (Heap.lt_size e') (Nat.not_lt.mpr (ym _))
  exact⟨S1.ext g4,N1.trans (.ext g4),.mk g (uc _) g1 g2,λb hb=>by
   rcases hb with rfl |rfl
   ·exact cV N1 S1 fr1
   ·exact cV N1 S1 (bC _),q⟩)))
def MO.dct:MO->aj (Nat×(Int->aj V)) | .dict n f=>aa (n,f) |_=>none
theorem wD(e:m.bind MO.dct=aa p):m=aa (.dict p.1 p.2):=by
 refine xEA (aq.mp e) λm z72 h2=>rwL z72 ?_
 cases m with
 |dict n f=>refine cxSP h2 ?_;rfl
 |_=>exact aF h2
theorem rF{i:Nat}(S:Sim C H ρ s)(hl:ρ[i]? =aa l)(hH:H[i]? =aa (.dict n f))(hb:∃ o,C.base.heap.get? pd=aa o):(l.a==pd)=am:=by
 rcases S.ro i l hl with ⟨vs,e⟩ |e
 ·rw[hH]at e;cases e
 ·rw[xq]
  intro q
  refine xE hb λo ho=>?_
  rw[q,ho]at e
  cases e.1
structure DctAt(C:Cx)(H:MH)(ρ:ae Lc)(s:aw)(i:Nat)(l:Lc)(n:Nat)(f:Int->aj V)(kvs:ae (Int×bx)):Prop where
 g:ρ[i]? =aa l
 d:l.d=l.a
 gn:l.g=none
 h:H[i]? =aa (.dict n f)
 x:s.heap.DictOf (uy C.prog C.w) l.a kvs
 le:kvs.length<=n
 f:∀ k,OV ρ s.heap (qo kvs k) (f k)
theorem sT(S:Sim C H ρ s)(g:ρ[i]? =aa l)(h:H[i]? =aa (.dict n f)):∃ kvs,DctAt C H ρ s i l n f kvs:=let ⟨h1,h2,kvs,hx,hle,hf⟩:=S.objs i _ l h g;⟨kvs,g,h1,h2,h,hx,hle,hf⟩
theorem qG{id:qt}{K:bx->aw->Prop}(ho:EV C r env o f)(sh:gK env o name apos pos args)(slot:Slot "dict" name id)(hty:tw (.builtin id)=pure (.type "method_descriptor"))(hr:Room r A)(S:Sim C H ρ s)(F:Fm C env ρ s lo)(e:f lo H Q)(hQ:∀ v H1,Q v H1->∃ i n g,v.rf=aa i/\H1[i]? =aa (.dict n g))(h:∀ {s1 ρ1 l i n g H1},Sim C H1 ρ1 s1->Nx ρ noW s ρ1 s1->ρ1[i]? =aa l->H1[i]? =aa (.dict n g)->Q (.ref i) H1->ax C.M A (zi pos (.builtin id) [.ref l.a] (mq pos (eh args env)) []) K NoE s1):ax C.M A (jl (.Call (.Attribute o name apos) args [] pos) env) K NoE s:=fH (P:=λb b=>vt) sh.base sh.few sh.line (ho.run hr S F e λS1 N1 r1 q pl=>by
  refine iQ (hQ _ _ q) λi n gg hi hv=>dY (r1.toRef hi) λl hv' z73 g=>rwL z73 ?_
  subst hv'
  refine xE (sT S1 g hv) λkvs D=>?_
  have hx:=D.x
  exact gV hx λob es ep hob z74 b=>xAA z74 λhc1 hc2 hc3=>getMethod_builtin ⟨_,hob,hc1⟩ PySem.F.plainAttrs_dict slot hty (λa e=>by cases e;exact⟨_,hob,hc2⟩) (h S1 N1 g hv q))
def eD2(f f1 f2:EF)(k:Nat->Nat->(Int->aj V)->Int->V->MH->EK->Prop):EF:=λlo H Q=>f lo H λa H1=>Lf a.rf λi=>(∃ n g,H1[i]? =aa (.dict n g))/\f1 lo H1 λb H2=>Lf (Ti b) λx=>f2 lo H2 λv H3=>Lf (H3[i]?.bind MO.dct) λp=>k i p.1 p.2 x v H3 Q
def yH(f f1 f2:EF):EF:=eD2 f f1 f2 λi n g x v H3 Q=>n<1000000/\match g x with |some v'=>Q v' H3 |none=>Q v (H3.set i (.dict (n+1) (dput g x v)))
theorem OV.same(o:OV ρ h u w):(u=none/\w=none)\/∃ x v,u=aa x/\w=aa v/\VR ρ h x v:=by
 cases u<;>cases w
 ·exact .inl ⟨rfl,rfl⟩
 ·exact False.elim o
 ·exact False.elim o
 ·exact .inr ⟨_,_,rfl,rfl,o⟩
theorem EV.setdefault(hb:∃ o,C.base.heap.get? pd=aa o)(ho:EV C r env o f)(h1:EV C r env e1 f1)(h2:EV C r env e2 f2)(sh:gK env o "setdefault" apos pos [e1,e2])(ht:mq pos (eh [e1,e2] env)= [(am,jl e1 env),(am,jl e2 env)]):EV C r env (.Call (.Attribute o "setdefault" apos) [e1,e2] [] pos) (yH f f1 f2):=λc c c c c c hr S F q=>qG ho sh PySem.F.slot_dict_setdefault PySem.F.type_dict_setdefault hr S F q (λv H1 q=>q.elim λi hi q=>let ⟨n,g,h⟩:=q.1;⟨i,n,g,hi,h⟩) λ{s1 ρ1 l i n g H1} S1 N1 hl hw q=>by
  refine rwL ht (method2_meetsIn PySem.F.slot_dict_setdefault PySem.F.entry_dict_setdefault (h1.run hr S1 (F.nx N1) q.2 λ{x s2 ρ2 v2 H2} S2 N2 r2 q=>q.elim λk hk q=>h2.run hr S2 ((F.nx N1).nx N2) q λ{b s3 ρ3 v3 H3} S3 N3 r3 q=>q.elim λp hp q=>(xE (sT S3 (aT (N2.trans N3).pre hl) (wD hp)) λkvs D=>?_)))
  have N:=N1.trans (N2.trans N3)
  refine xE (r2.tiE hk) λt z75=>rwL z75 ?_
  refine xA q λhn q=>⟨D.x.mapOf.typeIs,PySem.F.args_dict_setdefault_3 _ _ _,_,kt_meets_setdefault (uy C.prog C.w) (k:=k) l.a (uo _ _ _ _) (rF S3 D.g D.h hb) b,kvs,D.x,by have:=D.le;exact rwL eu (A29 hn this),λu hu=>?_,λhu h' hx' hs=>?_⟩
  ·rcases(D.f k).same with ⟨e,_⟩ |⟨x',v',e,e',rv⟩
   ·rw[hu]at e;exact cyM e
   ·rw[hu]at e;refine cyS e λzq=>rwL zq ?_;rw[e']at q;exact b5.from N (.tok S3 rv q)
  ·rcases(D.f k).same with ⟨_,e'⟩ |⟨x',v',e,_⟩
   ·rw[e']at q
    have st:=S3.setD (tk:=s3.toks+1) (k:=k) D.g D.h D.d D.gn D.x D.le D.f r3 hx' hs
    exact b5.from N ⟨st.1,st.2 _,r3.nx (st.2 noW),q⟩
   ·rw[hu]at e;exact aF e
def eGet(f f1 f2:EF):EF:=eD2 f f1 f2 λi n g x v H3 Q=>Q ((g x).getD v) H3
theorem EV.get(hb:∃ o,C.base.heap.get? pd=aa o)(ho:EV C r env o f)(h1:EV C r env e1 f1)(h2:EV C r env e2 f2)(sh:gK env o "get" apos pos [e1,e2])(ht:mq pos (eh [e1,e2] env)= [(am,jl e1 env),(am,jl e2 env)]):EV C r env (.Call (.Attribute o "get" apos) [e1,e2] [] pos) (eGet f f1 f2):=λa a a a a a hr S F q=>qG ho sh PySem.F.slot_dict_get PySem.F.type_dict_get hr S F q (λv H1 q=>q.elim λi hi q=>let ⟨n,g,h⟩:=q.1;⟨i,n,g,hi,h⟩) λ{s1 ρ1 l i n g H1} S1 N1 hl hw q=>by
  refine rwL ht (wpAny_dict_get2 (knd:=uy C.prog C.w) (rF S1 hl hw hb) (h1.run hr S1 (F.nx N1) q.2 λ{x s2 ρ2 v2 H2} S2 N2 r2 q=>q.elim λk hk q=>h2.run hr S2 ((F.nx N1).nx N2) q λ{b s3 ρ3 v3 H3} S3 N3 r3 q=>q.elim λp hp q=>(xE (sT S3 (aT (N2.trans N3).pre hl) (wD hp)) λkvs D=>?_)))
  have N:=N1.trans (N2.trans N3)
  refine xE (r2.tiE hk) λt z76=>rwL z76 ?_
  dsimp only at q
  refine⟨k,_,uo _ _ _ _,D.x.mapOf,?_⟩
  rcases(D.f k).same with ⟨e,e'⟩ |⟨x',v',e,e',rv⟩
  ·refine rwL e ?_;rw[e']at q;exact b5.from N (.tok S3 r3 q)
  ·refine rwL e ?_;rw[e']at q;exact b5.from N (.tok S3 rv q)
theorem xH:Slot "method_descriptor" "__get__" "method_descriptor.__get__" :=.of (owner:="method_descriptor") (n:="__get__") (by rw[fg,dk];kernel_rfl) (by decide+kernel) (by decide+kernel) (by decide+kernel)
  (by first |exact .inl (by decide+kernel) |exact .inr (by decide+kernel)) (by rw[je];kernel_rfl)
theorem aB5:qe qj "method_descriptor.__get__" =aa Builtin.«method_descriptor.__get__»:=nh ⋯
theorem aGk(a b c:bx):sx "method_descriptor.__get__" ⟨[a,b,c],[]⟩:=by unfold sx;kernel_rfl
theorem aAz:po (.type "dict") (.type "dict")=pure ak:=by rw[je];kernel_rfl
theorem aFw:po (.type "set") (.type "set")=pure ak:=by rw[je];kernel_rfl
theorem aF8:(kfb_private% "ownerAndName") "dict.get" =("dict","get"):=by first |decide+kernel |kernel_rfl
theorem aF9:(kfb_private% "ownerAndName") "set.__contains__" =("set","__contains__"):=by first |decide+kernel |kernel_rfl
theorem aBc{a:dv}{id:qt}(h1:Manifest.toldItsClass.contains id=am)(ho:(kfb_private% "ownerAndName") id=(T,nm))(hsub:po (.type T) (.type T)=pure ak)(hT:s.TypeIs (.ref a) T)(h:P (.done (.ret (.ref s.heap.objs.size))) {s with heap:=s.heap.push {cls:=.type "builtin_function_or_method",data:=.fields #[.builtin id,.ref a]}}):
  ax M A (Builtin.«method_descriptor.__get__» ⟨[.builtin id,.ref a,.type T],[]⟩) P E s:=by
 unfold Builtin.«method_descriptor.__get__»
 refine zzB (kg (a:=(.builtin id,aa (.ref a),aa (.type T))) (by first |rfl |kernel_rfl) ?_)
 simp only[h1,gu,jh]
 refine zzB (m:=(kfb_private% "checkInstance") (.builtin id) (.ref a)) (zzB (m:=(kfb_private% "nameAndClass") (.builtin id)) (kg (a:=((nm:Str),.type T)) (by show(match (kfb_private% "ownerAndName") id with | (owner,name)=>pure ((name:Str),Value.type owner))=_;exact rwL ho rfl) ?_))
 exact zzB (nk hT hsub (zzP (zzB (iy (zzP h)))))
theorem aB4:jn (.type "method_descriptor") "__get__" =pure (aa (.builtin "method_descriptor.__get__")):=by rw[fg,dk];kernel_rfl
theorem aB3:jn (.type "method_descriptor") "__set__" =pure none:=by rw[fg,dk];kernel_rfl
theorem aB6:jn (.type "method_descriptor") "__delete__" =pure none:=by rw[fg,dk];kernel_rfl
theorem xI{a:dv}{id:qt}(h1:Manifest.toldItsClass.contains id=am)(ho:(kfb_private% "ownerAndName") id=(T,nm))(hsub:po (.type T) (.type T)=pure ak)(hty:tw (.builtin id)=pure (.type "method_descriptor"))(hT:s.TypeIs (.ref a) T)(h:R (.ok (.ret (.ref s.heap.objs.size))) {s with heap:=s.heap.push {cls:=.type "builtin_function_or_method",data:=.fields #[.builtin id,.ref a]}}):
  ma (iz prog w) A (.call (.builtin "method_descriptor.__get__") ⟨[.builtin id,.ref a,.type T],[]⟩) R s:=kh xH.plain aB5 (xH.check _ _ _ _ _ _ _ _ hty (aGk _ _ _) (aBc h1 ho hsub hT h))
theorem j3:qe qj "dict.__getattribute__" =aa Builtin.«object.__getattribute__»:=ww (id':="object.__getattribute__") ⋯ (by decide+kernel) (by decide+kernel) ⋯
theorem lk_get:jn (.type "dict") "get" =pure (aa (.builtin "dict.get")):=by rw[fg,dk];kernel_rfl
set_option maxHeartbeats 1000000 in
theorem jX(a:dv)(es:om yt)(k:Nat)(u:Tok):Meets (Builtin.«object.__getattribute__» ⟨[.ref a,.str "get" u],[]⟩) (λA R s=>s.heap.get? a=aa {cls:=.type "dict",dict:=none,data:=.dict es k,slots:= #[]}/\R (.ok (.ret (.ref s.heap.objs.size))) {s with heap:=s.heap.push {cls:=.type "builtin_function_or_method",data:=.fields #[.builtin "dict.get",.ref a]}}):=Meets.of_wp λprog w A R s hs=>by
  obtain⟨hp,g,d,tk,os⟩:=s
  refine xA hs λhx hs=>?_
  have hT:(⟨hp,g,d,tk,os⟩:aw).TypeIs (.ref a) "dict" :=⟨_,hx,rfl⟩
  have f1:=lk_get
  have f2:=PySem.F.type_dict_get
  have f3:=aB4
  have f4:=aB3
  have f5:=aB6
  unfold Builtin.«object.__getattribute__»
  repeat (any_goals (first |assumption |wp_step))
  exact xI (by decide+kernel) aF8 aAz f2 hT (zzP ⟨_,rfl,hs⟩)
set_option maxHeartbeats 1000000 in
theorem lW{a:dv}{b:fq}(hx:s.heap.get? a=aa {cls:=.type "dict",dict:=none,data:=.dict es k,slots:= #[]})(h:Q (.ref s.heap.objs.size) {s with heap:=s.heap.push {cls:=.type "builtin_function_or_method",data:=.fields #[.builtin "dict.get",.ref a]},toks:=s.toks+1}):
  ax (iz prog w) A (vc (.ref a) "get" b) Q E s:=by
 obtain⟨hp,g,d,tk,os⟩:=s
 have hT:∀ tk',(⟨hp,g,d,tk',os⟩:aw).TypeIs (.ref a) "dict" :=λq=>⟨_,hx,rfl⟩
 have f3:=F.slot_dict_getattribute.lookup
 have f4:=F.slot_dict_getattribute.bind (.ref a)
 unfold vc getAttrBy
 repeat (any_goals (first |assumption |exact hT _ | ((with_reducible show ax _ _ (call (Value.builtin "dict.__getattribute__") _ _) _ _ _);refine yf F.slot_dict_getattribute (hT _) j3 (F.args_dict_getattribute_2 _ _) (jX a es k _) ⟨hx,?_⟩) |wp_step))
 have hb:(b && onTheHeap (Value.builtin "dict.__getattribute__"))=am:=by cases b<;>rfl
 simp only[hb,gu,jh]
 unfold boundAndCalled
 repeat (any_goals (first |assumption |exact hT _ | ((with_reducible refine(?_:ax _ _ (call (Value.builtin "dict.__getattribute__") _ _) _ _ _));refine yf F.slot_dict_getattribute (hT _) j3 (F.args_dict_getattribute_2 _ _) (jX a es k _) ⟨hx,?_⟩) |wp_step))
 exact zzP h
theorem lF:qe qj "set.__getattribute__" =aa Builtin.«object.__getattribute__»:=ww (id':="object.__getattribute__") ⋯ (by decide+kernel) (by decide+kernel) ⋯
theorem lk_con:jn (.type "set") "__contains__" =pure (aa (.builtin "set.__contains__")):=by rw[fg,dk];kernel_rfl
set_option maxHeartbeats 1000000 in
theorem k7(a:dv)(k:Nat)(st:SetTable)(u:Tok):Meets (Builtin.«object.__getattribute__» ⟨[.ref a,.str "__contains__" u],[]⟩) (λA R s=>s.heap.get? a=aa {cls:=.type "set",dict:=none,data:=.set #[] k st,slots:= #[]}/\R (.ok (.ret (.ref s.heap.objs.size))) {s with heap:=s.heap.push {cls:=.type "builtin_function_or_method",data:=.fields #[.builtin "set.__contains__",.ref a]}}):=Meets.of_wp λprog w A R s hs=>by
  obtain⟨hp,g,d,tk,os⟩:=s
  refine xA hs λhx hs=>?_
  have hT:(⟨hp,g,d,tk,os⟩:aw).TypeIs (.ref a) "set" :=⟨_,hx,rfl⟩
  have f1:=lk_con
  have f2:=PySem.F.type_set_contains
  have f3:=aB4
  have f4:=aB3
  have f5:=aB6
  unfold Builtin.«object.__getattribute__»
  repeat (any_goals (first |assumption |wp_step))
  exact xI (by decide+kernel) aF9 aFw f2 hT (zzP ⟨_,rfl,hs⟩)
set_option maxHeartbeats 1000000 in
theorem mY{a:dv}{st:SetTable}{b:fq}(hx:s.heap.get? a=aa {cls:=.type "set",dict:=none,data:=.set #[] k st,slots:= #[]})(h:Q (.ref s.heap.objs.size) {s with heap:=s.heap.push {cls:=.type "builtin_function_or_method",data:=.fields #[.builtin "set.__contains__",.ref a]},toks:=s.toks+1}):
  ax (iz prog w) A (vc (.ref a) "__contains__" b) Q E s:=by
 obtain⟨hp,g,d,tk,os⟩:=s
 have hT:∀ tk',(⟨hp,g,d,tk',os⟩:aw).TypeIs (.ref a) "set" :=λq=>⟨_,hx,rfl⟩
 have f3:=F.slot_set_getattribute.lookup
 have f4:=F.slot_set_getattribute.bind (.ref a)
 unfold vc getAttrBy
 repeat (any_goals (first |assumption |exact hT _ | ((with_reducible show ax _ _ (call (Value.builtin "set.__getattribute__") _ _) _ _ _);refine yf F.slot_set_getattribute (hT _) lF (F.args_set_getattribute_2 _ _) (k7 a k st _) ⟨hx,?_⟩) |wp_step))
 have hb:(b && onTheHeap (Value.builtin "set.__getattribute__"))=am:=by cases b<;>rfl
 simp only[hb,gu,jh]
 unfold boundAndCalled
 repeat (any_goals (first |assumption |exact hT _ | ((with_reducible refine(?_:ax _ _ (call (Value.builtin "set.__getattribute__") _ _) _ _ _));refine yf F.slot_set_getattribute (hT _) lF (F.args_set_getattribute_2 _ _) (k7 a k st _) ⟨hx,?_⟩) |wp_step))
 exact zzP h
noncomputable abbrev zX(id:qt)(self:bx):Obj:= {cls:=.type "builtin_function_or_method",data:=.fields #[.builtin id,self]}
theorem vY{id:qt}(ho:h.get? x=aa (zX id self)):∃ k,(k=Keeper.frame\/k=Keeper.machine\/k=Keeper.boundFrame)/\mx C.M h (keeperOf (.ref x)) k:=⟨.machine,.inr (.inl rfl),(Looks.ld (part:=none) ho).andThen .now⟩
theorem rG:po (.type "dict") (.type "module")=pure am:=by rw[je];kernel_rfl
theorem tW:po (.type "set") (.type "module")=pure am:=by rw[je];kernel_rfl
def okB(id full:qt)(args:Args):Prop:=(match Manifest.signature? id with |some sig=>Bind.checkArgs id {sig with full:=full} args |none=>(pure ():Sem wq))=pure ()
theorem aFz(a b c:bx):okB "dict.get" "dict.get" ⟨[a,b,c],[]⟩:=by
 unfold okB;refine rwL (signature?_of (id:="dict.get") (n:=['t','e','g']) (o:=['t','c','i','d']) ⋯ PySem.F.owner_dict) ?_;kernel_rfl
theorem aF0(a b:bx):okB "set.__contains__" "set.__contains__" ⟨[a,b],[]⟩:=by
 unfold okB;refine rwL (signature?_of (id:="set.__contains__") (n:=['_','_','s','n','i','a','t','n','o','c','_','_']) (o:=['t','e','s']) ⋯ PySem.F.owner_set) ?_;kernel_rfl
theorem mO{id:qt}(hk:qk id=aa .method)(hn:Bind.lastOf id=nm)(hv:Manifest.varargsMethods.contains id=am)(hm:po (.type T) (.type "module")=pure am)(ho:s.heap.get? d=aa o)(hc:o.cls= .type T)(hnc:∀ c,o.data≠ .cls c)(hfull:s!"{Bind.lastOf T}.{nm}" =full)(hok:okB id full ⟨.ref d::rest,[]⟩)(h:Q () s):ax M A (uq id ⟨.ref d::rest,[]⟩) Q E s:=by
 have hT:s.TypeIs (.ref d) T:=⟨o,ho,hc⟩
 unfold uq
 rw[<-hfull]at hok
 unfold okB at hok
 cases hs:Manifest.signature? id with
 |none=>exact zzP h
 |some sig=>
  rw[hs]at hok
  refine rwL hk ?_
  dsimp only
  refine rwL (bc (by decide)) (rwL hn (zzB (nk hT hm (rwL hv (rwL (bc (by decide)) (zzB (m:=isType (.ref d)) ?_))))))
  refine(?_:ax M A (loadHead d >>=λob=>pure (match ob.data with | .cls _=>ak |_=>am)) _ _ s)
  refine zzB (m:=loadPart d (aa headPart)) (wx ho ?_)
  have e:(match o.data with | .cls _=>ak |_=>am)=am:=by
   cases q:o.data<;>first |rfl |exact bw q (hnc _)
  exact rwL e (zzP (rwL (bc (by decide)) (zzB (yn hT (kg hok h)))))
theorem aDf:s!"{Bind.lastOf "dict"}.{"get"}" ="dict.get" :=by decide+kernel
theorem aDg:s!"{Bind.lastOf "set"}.{"__contains__"}" ="set.__contains__" :=by decide+kernel
theorem aCq:qk "dict.get" =aa .method:=by decide+kernel
theorem aCr:qk "set.__contains__" =aa .method:=by decide+kernel
theorem aCm:Bind.lastOf "dict.get" ="get" :=by decide+kernel
theorem aCn:Bind.lastOf "set.__contains__" ="__contains__" :=by decide+kernel
theorem aFj:Manifest.varargsMethods.contains "dict.get" =am:=by decide+kernel
theorem aFk:Manifest.varargsMethods.contains "set.__contains__" =am:=by decide+kernel
theorem pL{id:qt}(ho:s.heap.get? x=aa (zX id self))(hc:∀ {A':gj}{E':bx->aw->Prop}{Q':wq->aw->Prop},Q' () s->ax (iz prog w) A' (uq id ⟨self::args,[]⟩) Q' E' s)(hq:ze id=ak)(hb:qe qj id=aa B)(g:MeetsIn prog w (B ⟨self::args,[]⟩) S)(h:S A (wants Q E) s):ax (iz prog w) A (call (.ref x) args) Q E s:=by
 refine jy (oq (?_:ax _ A.in1 (callAny (.ref x) ⟨args,[]⟩) _ _ s))
 delta callAny;dsimp only
 refine zzB (wpAny_load ho ?_)
 simp only[show (Value.type "builtin_function_or_method" ==Value.type "method" || Value.type "builtin_function_or_method" ==Value.type "builtin_function_or_method" || Value.type "builtin_function_or_method" ==Value.type "method-wrapper")=ak by decide,xk]
 refine KFB.if_so (by decide) (zzB (hc (zzB (zzP (zzP ⟨xw hq _,codeAny_builtin hb ?_⟩)))))
 rw[Around.under_plainId hq]
 exact g A _ s h
theorem v9{h:pa}{a:dv}(ho:h.get? a=aa {cls:=.type "set",data:=.set #[] n t})(hf:t.fits 0=ak)(prog:ux)(w:ko):h.SetOf (uy prog w) a (λq=>am) 0:=⟨_,#[],n,t,ho,⟨rfl,rfl,rfl⟩,rfl,λe he=>by simp at he,λk=>by simp,by decide,hf,rfl⟩
theorem zJ{a:dv}:MeetsIn prog w (Builtin.«frozenset.__contains__» ⟨[.ref a,.int k u],[]⟩) (λq R s=>(∃ n t,s.heap.get? a=aa {cls:=.type "set",data:=.set #[] n t}/\t.fits 0=ak)/\R (.ok (.ret (.bool am))) {s with toks:=s.toks+1}):=.of_wp λA R s ⟨⟨n,t,ho,hf⟩,h⟩=>by
  have hS:=v9 ho hf prog w
  unfold Builtin.«frozenset.__contains__» Builtin.Frozenset.oneOther
  simp only[List.isEmpty_nil,bind_assoc]
  unfold Builtin.Frozenset.addrOf Builtin.Frozenset.withSetAsKey setContains
  refine zzB (zzP ?_)
  try dsimp only
  refine zzB (zzP ?_)
  try dsimp only
  refine zzB (wpAny_tryCatch (bz (zzB ((uy prog w).pyHash (uo _ _ _ _) (zzB (wpAny_setFind_of (s:= {s with toks:=s.toks+1}) (uo _ _ _ _) rfl hS λr hr=>(zzP ?_)))))))
  show ax _ _ (ret (Value.bool r.isSome)) _ _ _
  exact rwL hr (zzP ⟨_,rfl,h⟩)
def eBd(mk:Nat->V)(ok:MO->fq)(f:EF):EF:=λlo H Q=>f lo H λa H1=>Lf a.rf λi=>Lf H1[i]? λm=>ok m=ak/\Q (mk i) H1
def okD:MO->fq | .dict _ _=>ak |_=>am
def okS:MO->fq | .eset=>ak |_=>am
theorem EV.dget(h:EV C r env e f)(hb:kr e "get" env (jl e env)=jl e env)(ht:∀ o y,qx e o y=pure ()):EV C r env (.Attribute e "get" pos) (eBd .dget okD f):=λa a a a a a hr S F q=>dK hb (h.run hr S F q λS1 N1 r1 q=>q.elim λi hi q=>q.elim λm hH q=>by
  obtain⟨l,_,rfl,g'⟩:=r1.toRef hi
  obtain⟨hok,q⟩:=q
  cases m with
  |dict n g=>
   obtain⟨e1,e2,kvs,⟨⟨oc,od,odt,osl⟩,es,ep,ho,⟨c1,c2,c3⟩,hd,_⟩,_⟩:=S1.objs i _ l hH g'
   simp only at c1 c2 c3 hd
   subst c1 c2 c3 hd
   exact lW ho ⟨(S1.push _).toks _,N1.trans ((Nx.push _).trans (.toks _)),.dget g' (Heap.get?_push_size _ rfl),q⟩
  |_=>cases hok)
theorem aG7(h:okS m=ak):m= .eset:=by cases m<;>first |rfl |cases h
theorem EV.scon2(h:EV C r env e f)(hb:kr e "__contains__" env (jl e env)=jl e env):EV C r env (.Attribute e "__contains__" pos) (eBd .scon okS f):=λa a a a a a hr S F q=>dK hb (h.run hr S F q λS1 N1 r1 q=>q.elim λi hi q=>q.elim λm hH q=>by
  obtain⟨l,_,rfl,g'⟩:=r1.toRef hi
  obtain⟨hok,q⟩:=q
  obtain rfl:=aG7 hok
  obtain⟨e1,e2,n,t,ho,hf⟩:=S1.objs i _ l hH g'
  exact mY ho ⟨(S1.push _).toks _,N1.trans ((Nx.push _).trans (.toks _)),.scon g' (Heap.get?_push_size _ rfl),q⟩)
theorem zV(hx:s.heap.get? x=aa (zX "set.__contains__" (.ref d)))(ho:s.heap.get? d=aa {cls:=.type "set",data:=.set #[] n t})(hf:t.fits 0=ak)(h:Q (.bool am) {s with toks:=s.toks+1}):ax (iz prog w) A (call (.ref x) [.int k u]) Q E s:=by
 have hs:(λq R s=>(∃ n t,s.heap.get? d=aa {cls:=.type "set",data:=.set #[] n t}/\t.fits 0=ak)/\R (.ok (.ret (.bool am))) {s with toks:=s.toks+1}:PySem.Spec) A (wants Q E) s:=⟨⟨n,t,ho,hf⟩,h⟩
 have hc:∀ {A':gj}{E':bx->aw->Prop}{Q':wq->aw->Prop},Q' () s->ax (iz prog w) A' (uq "set.__contains__" ⟨.ref d::[.int k u],[]⟩) Q' E' s:=by
  intro A' E' Q' hq
  have h1:∀ c,({cls:=.type "set",data:=.set #[] n t}:Obj).data≠ .cls c:=λc z=>by injection z
  have h2:okB "set.__contains__" "set.__contains__" ⟨.ref d::[.int k u],[]⟩:=aF0 (.ref d) (.int k u)
  have h3:({cls:=.type "set",data:=.set #[] n t}:Obj).cls= .type "set" :=rfl
  refine mO (T:="set") (nm:="__contains__") (id:="set.__contains__") (full:="set.__contains__") (d:=d) (rest:=[.int k u]) aCr aCn aFk ?_ ho h3 h1 ?_ h2 hq
  ·exact tW
  ·exact aDg
 exact pL hx hc PySem.F.slot_set_contains.plain entry_set_contains zJ hs
def V.bd:V->aj (fq×Nat) | .dget i=>aa (ak,i) | .scon i=>aa (am,i) |_=>Option.none
def twoV(vs:ae V):aj (Int×V):=match vs with | [a,b]=>(Ti a).map λk=>(k,b) |_=>none
def eCv(f:EF)(fs:EFs):EF:=λlo H Q=>f lo H λa H1=>Lf a.bd λp=>fs lo H1 λvs H2=>
 bif p.1 then Lf (twoV vs) λkv=>Lf (H2[p.2]?.bind MO.dct) λd=>Q ((d.2 kv.1).getD kv.2) H2
 else Lf ((one vs).bind Ti) λk=>H2[p.2]? =aa .eset/\Q (.bool am) H2
theorem VR.toBd(r:VR ρ h u v)(e:v.bd=aa (t,i)):∃ a l,u= .ref a/\ρ[i]? =aa l/\h.get? a=aa (zX (bif t then "dict.get" else "set.__contains__") (.ref l.a)):=by
 cases v with
 |dget n=>exact cxSP e r.inv
 |scon n=>exact cxSP e r.inv
 |_=>first |exact aF e |cases e
theorem two_ok(r:VRs ρ h us vs)(e:twoV vs=aa p):∃ t u,us= [.int p.1 t,u]/\VR ρ h u p.2:=by
 refine xEE (rR (F:=twoV) e rfl (λq=>rfl) λq q q q=>rfl) λq q z=>?_;subst z
 exact xEA (dy.mp e) λk hk e=>cC r.a2 λa b z87 ra rb=>rwL z87 (xE (ra.tiE hk) λt z88=>rwL z88 (cxP e ⟨t,b,rfl,rb⟩))
theorem zW{ad:dv}{K:bx->aw->Prop}(hb:∃ o,C.base.heap.get? pd=aa o)(S2:Sim C H2 ρ2 s2)(D:DctAt C H2 ρ2 s2 i l n g kvs)(go2:s2.heap.get? ad=aa (zX "dict.get" (.ref l.a)))(h:K ((qo kvs k).getD c) {s2 with toks:=s2.toks+1}):ax C.M A (call (.ref ad) [.int k t,c]) K NoE s2:=by
 have hx':=D.x
 exact cR hx' λoo es' ep ho z89 hd q=>xAA z89 λc1 c2 c3=>pL go2 (λhq=>mO (T:="dict") (nm:="get") aCq aCm aFj rG ho c1 (λc=>by refine rwL hd ?_;intro z;cases z) aDf (aFz _ _ _) hq) PySem.F.slot_dict_get.plain PySem.F.entry_dict_get
  (meets_dict_get_default (uy C.prog C.w) l.a (k:=k) (uo _ _ _ _) (rF S2 D.g D.h hb) _) ⟨_,D.x.mapOf,h⟩
theorem EV.callV(hb:∃ o,C.base.heap.get? pd=aa o)(h:EV C r env (.Name x np) f)(ha:EVs C r env es fs)(hfl:mU env es):EV C r env (.Call (.Name x np) es [] pos) (eCv f fs):=λA s ρ H lo Q hr S F q=>oz (h.run hr S F q λS1 N1 r1 q=>q.elim λp hp q=>by
  obtain⟨t,i⟩:=p
  refine cC (r1.toBd hp) λad l z90 gl go=>rwL z90 (qi (P:=λh=>h.get? ad=aa (zX (bif t then "dict.get" else "set.__contains__") (.ref l.a))) (by rw[hfl.2];rfl) (λh hh=>vY hh) (wmN (lI ha hfl hr S1 (F.nx N1) q) λa s2 p=>?_))
  obtain⟨ps,kw⟩:=a
  obtain⟨hkw,S2,N2,rs,q⟩:=p
  refine rwL hkw ?_
  have go2:=N2.imm _ _ go (by simp [aX])
  refine⟨go2,?_⟩
  have N:=N1.trans N2
  have hl2:=aT N2.pre gl
  cases t with
  |true=>
   replace q:=show Lf (twoV _) _ from q
   refine q.elim λkv hkv q=>q.elim λd hd q=>xE (sT S2 hl2 (wD hd)) λkvs D=>iW (two_ok rs hkv) λt u e ru=>rwL e (zW hb S2 D go2 ?_)
   rcases(D.f kv.1).same with ⟨e,e'⟩ |⟨x',v',e,e',rv⟩
   ·refine rwL e ?_;rw[e']at q;exact b5.from N (.tok S2 ru q)
   ·refine rwL e ?_;rw[e']at q;exact b5.from N (.tok S2 rv q)
  |false=>
   replace q:=show Lf ((one _).bind Ti) _ from q
   exact q.elim λk hk q=>xEA (aq.mp hk) λv hv hk=>xEA (j7 rs hv) λu e ru=>rwL e (xE (ru.tiE hk) λt z91=>rwL z91 (j4 (S2.objs i _ l q.1 hl2) λg1 g2 n t ho hf=>zV go2 ho hf (b5.from N (.tok S2 (.bool _) q.2)))))
theorem Room.deeper(h:Room (r+1) A)(env:Env):Room r (A.deeper env):=by
 refine xAA h λh1 h2 h3=>⟨h1,(A30 h2:A.depth+1+10*r<=700),?_⟩
 ·exact(A31 h3:A.units+3+40*r<=8000)
def lo0:Lo:=λq=>none
def loB:ae Str->ae V->Lo->Lo
 |x::xs,v::vs,lo=>loB xs vs (upd lo x v)
 |_,_,lo=>lo
theorem loB_c(x:Str)(xs:ae Str)(v:V)(vs:ae V)(lo:Lo):loB (x::xs) (v::vs) lo=loB xs vs (upd lo x v):=rfl
theorem aEt(kindOf:Str->aj lh)(xs:ae Str):∀ {us:ae bx}{vs:ae V}{m cm:Str->aj bx}{lo:Lo},VRs ρ h us vs->us.length=xs.length-> (∀ x∈xs,kindOf x=aa .local\/kindOf x=aa .cell)-> (∀ x,kindOf x=aa .local->OV ρ h (m x) (lo x))->(∀ x,kindOf x=aa .cell->OV ρ h (cm x) (lo x))-> (∀ x,kindOf x=aa .local->OV ρ h (bindL kindOf (xs.zip us) m x) (loB xs vs lo x))/\(∀ x,kindOf x=aa .cell->OV ρ h (bindC kindOf (xs.zip us) cm x) (loB xs vs lo x)):=by
 induction xs with
 |nil=>
  intro us vs m cm lo r hl _ a b
  cases r with
  |nil=>exact⟨a,b⟩
  |cons=>exact bw hl (qw _)
 |cons x xs ih=>
  intro us vs m cm lo r hl hk h1 h2
  cases r with
  |nil=>exact bw hl (qw _).symm
  | @cons u us v vs a b=>
  simp only[List.zip_cons_cons,bindL,bindC,loB_c]
  have hk':∀ y∈xs,kindOf y=aa .local\/kindOf y=aa .cell:=λy hy=>hk y (bq _ hy)
  have hl':=Nat.succ.inj hl
  refine Or.elim (hk x be) (λq=>?_) λq=>?_
  ·refine rwL (bo q) (rwL (bo q) (ih b hl' hk' (λy hy=>?_) (λy hy=>?_)))
   ·by_cases e:y=x
    ·simp [upd,e];exact a
    ·simp [upd,e];exact h1 y hy
   ·have e:y≠x:=by rintro rfl;rw[q]at hy;cases hy
    simp [upd,e];exact h2 y hy
  ·have q': ¬kindOf x=aa .local:=by refine rwL q ?_;intro z;cases z
   refine rwL (bc q') (rwL (bc q') (ih b hl' hk' (λy hy=>?_) (λy hy=>?_)))
   ·have e:y≠x:=by rintro rfl;rw[q]at hy;cases hy
    simp [upd,e];exact h1 y hy
   ·by_cases e:y=x
    ·simp [upd,e];exact a
    ·simp [upd,e];exact h2 y hy
set_option tactic.hygienic true in
theorem fT:∀ (names:ae (Str×lh)) (n:Nat) (acc:ae (Str×dv)),(acc.lookup x).isSome=ak\/(∃ k,(x,k)∈names/\k= .cell)->((cellsFrom n names acc).lookup x).isSome=ak
 | [],_,_,h=>by
  rcases h with h |⟨k,h,_⟩
  ·exact h
  ·cases h
 | (y,k)::r,n,acc,h=>by
  unfold cellsFrom
  split
  ·rename_i hk
   refine fT r (n+1) _ ?_
   rcases h with h |⟨k',h,hk'⟩
   ·left
    simp only[List.lookup]
    split
    ·rfl
    ·exact h
   ·refine Or.elim (cy.mp h) (λe=>?_) λe=>?_
    ·refine cxP e ?_;left;simp [List.lookup]
    ·exact .inr ⟨k',e,hk'⟩
  ·rename_i hk
   refine fT r n _ ?_
   rcases h with h |⟨k',h,hk'⟩
   ·exact .inl h
   ·refine Or.elim (cy.mp h) (λe=>?_) λe=>?_
    ·cases e;subst hk';exact bw rfl hk
    ·exact .inr ⟨k',e,hk'⟩
structure Def(C:Cx)(a:dv)(fd:wy)(body:ae jz):Prop where
 obj:∃ o,C.base.heap.get? a=aa o/\o.data= .func fd
 code:C.base.heap.CodeRec fd.code fd.qualname
 body:fd.body= .stmts body
 clo:fd.closure= []
 gl:fd.globals=gh
 bi:fd.builtins=kz
 kind:fd.scope.kind= .function
 co:fd.scope.isCoroutine=am
 free:∀ x:Str,fd.scope.names.lookup x≠aa .free
theorem Fm.call{a:dv}(D:Def C a fd body)(S:Sim C H ρ s)(hu:VRs ρ s.heap us vs)(hl:us.length=names.length)(hn:∀ x∈names,fd.scope.names.lookup x=aa .local\/fd.scope.names.lookup x=aa .cell)(I:InCallC s (ij fd s.heap.objs.size a).locals (bindL (ij fd s.heap.objs.size a).kindOf (names.zip us) λd=>none) (ij fd s.heap.objs.size a).cells (bindC (ij fd s.heap.objs.size a).kindOf (names.zip us) λd=>none) s1):Sim C H ρ s1/\Nx ρ noW s ρ s1/\Fm C (ij fd s.heap.objs.size a) ρ s1 (loB names vs lo0)/\(∀ b,Wr (ij fd s.heap.objs.size a) b->s.heap.get? b=none):=by
 obtain⟨⟨⟨h',tk,e⟩,ns,keep,ss⟩,cell,apart,above⟩:=I
 subst e
 have S1:Sim C H ρ {s with heap:=h',toks:=tk}:=S.ext keep
 have N1:Nx ρ noW s ρ {s with heap:=h',toks:=tk}:=.ext keep
 have hfr:∀ b,Wr (ij fd s.heap.objs.size a) b->s.heap.get? b=none:=by
  rintro b (rfl |⟨x,hx⟩)
  ·exact bC _
  ·have:=above x b (mem_of_lookup hx)
   cases q:s.heap.get? b with
   |none=>rfl
   |some o=>have h2:=Heap.lt_size q;exact bw (show s.heap.objs.size<b from this) (Nat.not_lt.mpr (Nat.le_of_lt h2))
 have hu1:=hu.mono (cx ρ) (eO keep)
 have B:=aEt (ρ:=ρ) (h:=h') (ij fd s.heap.objs.size a).kindOf names (m:=λd=>none) (cm:=λd=>none) (lo:=lo0) hu1 hl hn (λd d=>trivial) (λd d=>trivial)
 refine⟨S1,N1,⟨D.kind,D.gl,D.bi,⟨_,ns,B.1⟩,λx hx=>?_,λb hb=>⟨fD S (hfr b hb),d5 S (hfr b hb)⟩,λx c hx=>?_,λx y c hx hy=>?_,?_⟩,hfr⟩
 ·refine Or.elim hx (λhx=>?_) λhx=>?_
  ·have hs:((ij fd s.heap.objs.size a).cells.lookup x).isSome=ak:=fT _ _ _ (.inr ⟨_,mem_of_lookup hx,rfl⟩)
   exact xE (Option.isSome_iff_exists.mp hs) λc hc=>xEA (cell x c hc) λo h1 h2=>⟨c,o,_,hc,h1,h2,B.2 x hx⟩
  ·exact bw hx (D.free x)
 ·have:=above x c (mem_of_lookup hx)
  intro q;rw[q]at this;exact Nat.lt_irrefl _ this
 ·exact name_of_addr apart (mem_of_lookup hx) (mem_of_lookup hy)
 ·rintro b (rfl |⟨x,hx⟩)
  ·exact iQ ns λo d d g d=>⟨o,g⟩
  ·exact xEA (cell x b hx) λo g d=>⟨o,g⟩
theorem Nx.leave(a:Nx ρ noW s ρ s0)(b:Nx ρ W s0 ρ1 s1)(hW:∀ x,W x->s.heap.get? x=none):Nx ρ noW s ρ1 s1:=by
 have T:Nx ρ W s ρ1 s1:=a.wr.trans b
 exact⟨T.pre,T.new,λx o e ho c=>T.kp x o e ho (λq=>by rw[hW x q]at e;exact aF e),T.imm,T.al⟩
def mW(Q:EK):SK:=λfl q H=>match fl with | .ret v=>Q v H | .next=>Q .none H |_=>fh
def kQ(names:ae Str)(more:ae V)(f:SF):CF:=λvs H Q=>(vs++more).length=names.length/\f (loB names (vs++more) lo0) H (mW Q)
def Binds(C:Cx)(fd:wy)(names:ae Str)(dflt:ae bx):Prop:=∀ (s:aw) (us:ae bx),(∀ b o,C.base.heap.get? b=aa o->s.heap.get? b=aa o)->(us++dflt).length=names.length->BindsTo s fd ⟨us,[]⟩ (names.zip (us++dflt))
def s6(C:Cx)(ρ:ae Lc)(s:aw)(Q:EK):tu->aw->Prop
 | .ok (.ret x),s'=>b5 C ρ s Q x s'
 |_,_=>fh
theorem jI{a:dv}(D:Def C a fd body){dflt:ae bx}(hgen:fd.scope.isGenerator=am)(hb:Binds C fd names dflt)(hd:∀ ρ h,VRs ρ h dflt more)(hn:∀ x∈names,fd.scope.names.lookup x=aa .local\/fd.scope.names.lookup x=aa .cell)(hf:∀ L,SVs C r (ij fd L a) body f)(hr:Room (r+1) A)(S:Sim C H ρ s)(hu:VRs ρ s.heap us vs)(e:kQ names more f vs H Q):ma C.M A (.call (.ref a) ⟨us,[]⟩) (s6 C ρ s Q) s:=by
 refine xEA D.obj λo ho hdata=>xA e λhlen e=>?_
 have hu':VRs ρ s.heap (us++dflt) (vs++more):=hu.append (hd _ _)
 have hlen':(us++dflt).length=names.length:=hu'.length.trans hlen
 refine codeAny_call_function hr.lt (S.keep _ _ ho) hdata D.co hgen D.body (D.code.keeps S.keep) (hb s us S.keep hlen' _ _ _ _ (rwL D.clo ?_))
 have hbk:∀ x∈names.zip (us++dflt),fd.scope.names.lookup x.1=aa .local\/fd.scope.names.lookup x.1=aa .cell:=λx hx=>hn x.1 (List.of_mem_zip hx).1
 refine ur D.kind (λx hx=>(hbk x hx).imp_right λq=>⟨q,fT _ _ _ (.inr ⟨_,mem_of_lookup q,rfl⟩)⟩) λenv he s1 I=>?_
 subst he
 refine xAAA (Fm.call D S hu' hlen' hn I) λS1 N1 F1 hfr=>⟨(C.lim.keeps S.keep).keeps I.toInCall.keep,codeAny_func (wmN (hf s.heap.objs.size (hr.deeper _) S1 F1 e) λfw s2 p=>?_)⟩
 obtain⟨S2,N2,F2,r2,q⟩:=p
 cases r2 with
 |ret r2=>exact⟨S2,N1.leave N2 hfr,r2,q⟩
 |next=>exact⟨S2,N1.leave N2 hfr,.none,q⟩
 |brk=>exact q.elim
 |cont=>exact q.elim
def CC(C:Cx)(r:Nat)(f:bx)(g:CF):Prop:=∀ {A:gj}{s:aw}{ρ:ae Lc}{H:MH}{us:ae bx}{vs:ae V}{Q:EK},Room r A->Sim C H ρ s->VRs ρ s.heap us vs->g vs H Q->ma C.M A (.call f ⟨us,[]⟩) (s6 C ρ s Q) s
theorem CC.cv{a:dv}(ho:C.base.heap.get? a=aa o)(hd:o.data= .func fd)(h:CC C r (.ref a) g):CV C r (.ref a) g:=by
 refine⟨λhp hk=>⟨.frame,.inl rfl,(Looks.ld (part:=none) (hk _ _ ho)).andThen (rwL hd .now)⟩,λhr S hu e=>jy (ny (h hr S hu e) λrr s' h=>?_)⟩
 rcases rr with x | (x |_ |_ |_)<;>first |exact h |exact h.elim
theorem CV.def_{a:dv}(D:Def C a fd body){dflt:ae bx}(hgen:fd.scope.isGenerator=am)(hb:Binds C fd names dflt)(hd:∀ ρ h,VRs ρ h dflt more)(hn:∀ x∈names,fd.scope.names.lookup x=aa .local\/fd.scope.names.lookup x=aa .cell)(hf:∀ L,SVs C r (ij fd L a) body f):CV C (r+1) (.ref a) (kQ names more f):=let ⟨_,ho,hdata⟩:=D.obj
 CC.cv ho hdata λhr S hu e=>jI D hgen hb hd hn hf hr S hu e
def gX(cells:ae (Str×dv)):ae (Str×lh)->ae (Str×dv)->ae (Str×dv)
 | [],acc=>acc
 | (n,k)::r,acc=>if k== .free then gX cells r ((n,(cells.lookup n).getD 0)::acc) else gX cells r acc
set_option tactic.hygienic true in
theorem kG(f:Str×lh->ae (Str×dv)->Sem (ForInStep (ae (Str×dv))))(hf:∀ name kind cs,f (name,kind) cs=if kind== .free then(do let a<-cellOf env name;pure (.yield ((name,a)::cs))) else pure (.yield cs)):∀ (names:ae (Str×lh)) (acc:ae (Str×dv)) (Q:ae (Str×dv)->aw->Prop),(∀ p∈names,p.2= .free->∃ c,env.cells.lookup p.1=aa c)-> Q (gX env.cells names acc) s->ax M A (forIn names acc f) Q E s
 | [],acc,Q,_,h=>rwL yu (zzP h)
 | (name,kind)::r,acc,Q,hc,h=>by
  rw[oe,hf]
  unfold gX at h
  split at h
  ·rename_i hk
   refine rwL (bo hk) (xE (hc (name,kind) be (by simpa using hk)) λc hc1=>?_)
   dsimp only at hc1
   rw[hc1]at h
   exact zzB (zzB (wpAny_cellOf hc1 (zzP (kG f hf r _ Q (λp hp=>hc p (bq _ hp)) h))))
  ·rename_i hk
   exact rwL (bc hk) (zzB (zzP (kG f hf r _ Q (λp hp=>hc p (bq _ hp)) h)))
set_option tactic.hygienic true in
theorem kH:∀ (names:ae (Str×lh)) (acc:ae (Str×dv)),(∀ p∈names,p.2= .free->∃ c,cells.lookup p.1=aa c)->(x,c)∈gX cells names acc->(x,c)∈acc\/cells.lookup x=aa c
 | [],_,_,h=>.inl h
 | (n,k)::r,acc,hc,h=>by
  unfold gX at h
  split at h
  ·rename_i hk
   refine Or.elim (kH r _ (λp hp=>hc p (bq _ hp)) h) (λq=>?_) λq=>?_
   ·refine Or.elim (cy.mp q) (λe=>?_) λe=>?_
    ·cases e
     refine xE (hc (x,k) be (by simpa using hk)) λc hc1=>?_
     right;simp at hc1;refine rwL hc1 ?_;rfl
    ·exact .inl e
   ·exact .inr q
  ·exact kH r _ (λp hp=>hc p (bq _ hp)) h
set_option tactic.hygienic true in
theorem kI:∀ (names:ae (Str×lh)) (acc:ae (Str×dv)),(∀ p∈names,p.2= .free->∃ c,cells.lookup p.1=aa c)->(acc.lookup x).isSome=ak\/(x,NameKind.free)∈names->((gX cells names acc).lookup x).isSome=ak
 | [],_,_,h=>by
  refine Or.elim h (λh=>h) λh=>?_
  ·cases h
 | (n,k)::r,acc,hc,h=>by
  unfold gX
  split
  ·rename_i hk
   refine kI r _ (λp hp=>hc p (bq _ hp)) (Or.elim h (λh=>?_) λh=>?_)
   ·left
    simp only[List.lookup]
    split
    ·rfl
    ·exact h
   ·refine Or.elim (cy.mp h) (λe=>?_) λe=>?_
    ·refine cxP e ?_;left;simp [List.lookup]
    ·exact .inr e
  ·rename_i hk
   refine kI r _ (λp hp=>hc p (bq _ hp)) (Or.elim h (λh=>(.inl h)) λh=>?_)
   ·refine Or.elim (cy.mp h) (λe=>?_) λe=>?_
    ·cases e;exact bw rfl hk
    ·exact .inr e
def vQ(env:Env)(n:Str)(k:lh):fq:=k== .free && env.scope.kind== .function && env.kindOf n==aa .cell
def gY(env:Env)(sc:vn)(L:dv):Env:={(newEnv sc L env.globals (gX env.cells sc.names []) env.qual none .none (aa env) kz) with scope:= {sc with names:=sc.names.map λp=>if vQ env p.1 p.2 then(p.1,.cell) else(p.1,p.2)}}
theorem oJ{f:Str->lh->lh}:∀ l:ae (Str×lh),(l.map λp=>(p.1,f p.1 p.2)).lookup x=(l.lookup x).map (f x)
 | []=>rfl
 | (n,k)::r=>by
  simp only[fp,List.lookup]
  cases h:x==n with
  |true=>obtain rfl:=beq_iff_eq.mp h;rfl
  |false=>exact oJ r
theorem jT(env:Env)(sc:vn)(L:dv)(x:Str):(gY env sc L).kindOf x=(sc.names.lookup x).map λk=>if vQ env x k then .cell else k:=by
 show(sc.names.map λp=>if vQ env p.1 p.2 then(p.1,NameKind.cell) else(p.1,p.2)).lookup x=_
 rw[<-oJ (f:=λn k=>if vQ env n k then .cell else k)]
 congr 1
 refine List.map_congr_left λp q=>?_
 split<;>rfl
structure l9(env:Env)(sc:vn)(hid:ae Str):Prop where
 kind:sc.kind= .function
 nocell:(sc.names.all λp=>p.2 != .cell)=ak
 free:(sc.names.all λp=>p.2 != .free || (env.kindOf p.1==aa .cell))=ak
 hid:(sc.names.all λp=>p.2 != .local || (sc.names.lookup p.1==aa .local && hid.contains p.1))=ak
def hide(hid:ae Str)(lo:Lo):Lo:=λx=>if hid.contains x then none else lo x
theorem Fm.comp(K:l9 env sc hid)(hh:∀ x∈hid,sc.names.lookup x≠aa .free)(S:Sim C H ρ s)(F:Fm C env ρ s lo)(hL:s.heap.get? L=none)(hns:s1.heap.Ns L λa=>none)(N:Nx ρ noW s ρ s1):Fm C (gY env sc L) ρ s1 (hide hid lo)/\(∀ b,Wr (gY env sc L) b->b=L\/Wr env b):=by
 have hfc:∀ p∈sc.names,p.2= .free->∃ c,env.cells.lookup p.1=aa c:=λp hp hk=>by
  have h:=jd.mp K.free p hp
  rw[hk]at h
  simp at h
  exact iQ (F.cl p.1 (.inl h)) λc a a hc a=>⟨c,hc⟩
 have hcells:∀ x c,(gY env sc L).cells.lookup x=aa c->env.cells.lookup x=aa c:=λx c h=>by
  refine Or.elim (kH sc.names [] hfc (mem_of_lookup h)) (λq=>?_) λq=>?_
  ·cases q
  ·exact q
 have hW:∀ b,Wr (gY env sc L) b->b=L\/Wr env b:=by
  rintro b (rfl |⟨x,hx⟩)
  ·exact .inl rfl
  ·exact .inr (.inr ⟨x,hcells x b hx⟩)
 have F1:=F.next N λa a q=>q
 refine⟨⟨K.kind,F.gl,F.bi,⟨_,hns,λx hx=>?_⟩,λx hx=>?_,λb hb=>?_,λx c hc=>?_,λx y c hx hy=>F.inj x y c (hcells x c hx) (hcells y c hy),λb hb=>?_⟩,hW⟩
 ·rw[jT]at hx
  have hm:hid.contains x=ak:=by
   cases hk:sc.names.lookup x with
   |none=>rw[hk]at hx;exact aF hx
   |some k=>
    rw[hk]at hx
    simp only[um,Option.some.injEq]at hx
    split at hx
    ·cases hx
    ·subst hx
     have h:=jd.mp K.hid _ (mem_of_lookup hk)
     simp at h
     simpa using h.2
  unfold hide
  refine rwL (bo hm) ?_
  trivial
 ·rw[jT]at hx
  have hfr:sc.names.lookup x=aa .free:=by
   cases hk:sc.names.lookup x with
   |none=>rw[hk]at hx;refine Or.elim hx (λhx=>?_) λhx=>?_<;>exact aF hx
   |some k=>
    have h2:=jd.mp K.nocell _ (mem_of_lookup hk)
    rw[hk]at hx
    simp only[um,Option.some.injEq]at hx
    by_cases ho:vQ env x k=ak
    ·have:k= .free:=by unfold vQ at ho;simp at ho;exact ho.1.1
     rw[this]
    ·rw[bc ho]at hx
     refine Or.elim hx (λhx=>?_) λhx=>?_
     ·subst hx;simp at h2
     ·rw[hx]
  have hkx:env.kindOf x=aa .cell:=by
   have h:=jd.mp K.free _ (mem_of_lookup hfr)
   simpa using h
  refine cR (F1.cl x (.inl hkx)) λc o u h1 h2 h3 h4=>?_
  have hs:=kI sc.names [] hfc (.inr (mem_of_lookup hfr))
  refine xE (Option.isSome_iff_exists.mp hs) λc' hc'=>?_
  have:=hcells x c' hc'
  rw[h1]at this
  refine cyS this λzq=>?_;subst zq
  refine⟨c,o,u,hc',h2,h3,?_⟩
  have hn: ¬(hid.contains x=ak):=λq=>hh x (by simpa using q) hfr
  unfold hide
  exact rwL (bc hn) h4
 ·rcases hW b hb with rfl |q
  ·exact⟨fD S hL,d5 S hL⟩
  ·exact F1.own b q
 ·intro q
  have q':c=L:=q
  rw[q']at hc
  refine xE (F.alv L (.inr ⟨x,hcells x L hc⟩)) λo ho=>?_
  rw[hL]at ho;exact aF ho
 ·rcases hW b hb with rfl |q
  ·exact iQ hns λo a a g a=>⟨o,g⟩
  ·exact F1.alv b q
def LW(env:Env):dv->Prop:=λb=>b=env.locals
noncomputable abbrev ALV(C:Cx)(r:Nat)(env:Env)(t:Expr)(f:AF):Prop:=AVW C LW r env t f
theorem ALV.name{pos}(hk:env.kindOf x=aa .local):ALV C r env (.Name x pos) (aN x):=λq q q q q q q q q S F rv e=>uz (gZ (W:=LW env) S F rv (.inl ⟨hk,rfl⟩) λq S N F=>⟨S,N,F,e⟩)
noncomputable abbrev ALVs(C:Cx)(r:Nat)(env:Env)(ts:ae Expr)(f:AFs):Prop:=pU C LW r env ts f
theorem ALV.tuple{pos}(h:ALVs C r env ts g)(hn:(fu ts env).length=n)(hstar:(fu ts env).findIdx? (·.1)=none):ALV C r env (.Tuple ts k pos) (sX n g):=AVW.tuple h hn hstar
def iP(K:ItK C):Prop:=∀ {A:gj}{s:aw}{ρ:ae Lc}{H:MH}{it:K.σ}{x:bx}{X:dv->Prop}{Q:bx->aw->Prop},Sim C H ρ s->(∃ y,K.nx it H y)->K.rel ρ s it x X->Q x s->ax C.M A (wu x) Q NoE s
theorem iP.list:iP (bZ C):=by
 rintro A s ρ H it x X Q _ _ ⟨a,rfl,rfl,l,h1,h2⟩ h
 exact wpAny_pyIter_listiter h2 h
theorem iP.range:iP (hF C):=by
 rintro A s ρ H it x X Q _ _ ⟨a,rfl,rfl,h1⟩ h
 exact wpAny_pyIter_rangeiter h1 h
theorem iP.enum:iP (oQ C):=by
 rintro A s ρ H it x X Q _ _ R h
 cases R with
 |mk h1 h2 h3 h4=>exact wpAny_pyIter_enum h3 h
def CnV(C:Cx)(r:Nat)(env:Env)(cs:ae Expr)(f:TF):Prop:=∀ ⦃A:gj⦄⦃s:aw⦄⦃ρ:ae Lc⦄⦃H:MH⦄⦃lo:Lo⦄⦃Q:fq->MH->Prop⦄,Room r A->Sim C H ρ s->Fm C env ρ s lo->f lo H Q->
  ax C.M A (forIn cs ak λc ok=>if ok=ak then(do let ok<-PySem.isTrue c env (jl c env);pure (ForInStep.yield ok)) else pure (ForInStep.yield ok)) (mR C ρ s Q) NoE s
theorem CnV.nil:CnV C r env [] (tK ak):=by
 intro A s ρ H lo Q hr S F e
 exact rwL yu (zzP ⟨S,.refl,e⟩)
theorem uX:∀ cs:ae Expr,Q am s->ax M A (forIn cs am λc ok=>if ok=ak then(do let ok<-PySem.isTrue c env (jl c env);pure (ForInStep.yield ok)) else pure (ForInStep.yield ok)) Q E s
 | [],h=>rwL yu (zzP h)
 |c::cs,h=>by
  rw[oe,bc (by decide)]
  exact zzB (zzP (uX cs h))
theorem CnV.cons(h:TV C r env c f)(hs:CnV C r env cs g):CnV C r env (c::cs) (aZ f g):=by
 intro A s ρ H lo Q hr S F q
 rw[oe,bo rfl]
 exact zzB (zzB (h.run hr S F q λ{b a a a} S1 N1 q=>zzP (match b,q with
  |true,q=>wmN (hs hr S1 (F.nx N1) q) λa a p=>p.from N1
  |false,q=>uX _ ⟨S1,N1,q⟩)))
noncomputable abbrev LK:=Lo->MH->Prop
noncomputable abbrev BF:=Nat->Lo->MH->LK->Prop
def yP(elt:Expr)(gens:ae ow)(sc:vn)(pos:Pos)(d:Nat)(acc:bx)(env:Env)(K:Sem PySem.Fin):Sem PySem.Fin:=
 match gens[d+1]? with
 |some g'=>do
  let x<-jl g'.iter env
  vu g'.iter.pos
  if (g'.is_async != 0)=ak then do
    let x<-foldedIterable g'.iter x
    let it<-vv [x] (if (g'.is_async != 0)=ak then asyncIter x else wu x)
    let _<-runOwn (Code.compStart (elt.ListComp gens sc pos) (d+1) it acc env) env
    K
   else do
    let x<-iw g'.iter env x
    let it<-vv [x] (if (g'.is_async != 0)=ak then asyncIter x else wu x)
    let _<-runOwn (Code.compStart (elt.ListComp gens sc pos) (d+1) it acc env) env
    K
 |none=>(do
   let v<-jl elt env
   let _<-call (Value.builtin "list.append") [acc,v]
   pure ():Sem PUnit) >>=λq=>K
def BV(C:Cx)(r:Nat)(env:Env)(elt:Expr)(gens:ae ow)(sc:vn)(pos:Pos)(d:Nat)(bf:BF):Prop:=∀ ⦃A:gj⦄⦃s:aw⦄⦃ρ:ae Lc⦄⦃H:MH⦄⦃lo:Lo⦄⦃Q0:LK⦄⦃ai:Nat⦄⦃l:Lc⦄⦃Q:PySem.Fin->aw->Prop⦄⦃K:Sem PySem.Fin⦄,Room r A->Sim C H ρ s->Fm C env ρ s lo->ρ[ai]? =aa l->bf ai lo H Q0->
  (∀ {s' ρ' lo' H'},Sim C H' ρ' s'->Nx ρ (LW env) s ρ' s'->Fm C env ρ' s' lo'->Q0 lo' H'->ax C.M A K Q NoE s')->ax C.M A (yP elt gens sc pos d (.ref l.a) env K) Q NoE s
def cD(f:EF):BF:=λai lo H Q=>f lo H λv H1=>Lf (H1[ai]?.bind MO.own) λvs=>vs.length<1000000/\Q lo (H1.set ai (.list (vs++[v])))
theorem BV.last(h:EV C r env elt f)(hg:gens[d+1]? =none):BV C r env elt gens sc pos d (cD f):=by
 intro A s ρ H lo Q0 ai l Q K hr S F hl q hK
 unfold yP
 refine rwL hg (zzB (zzB (h.run hr S F q λ{x s1 ρ1 v1 H1} S1 N1 r1 q=>q.elim λvs hv q=>(xEE (iD S1 (aT N1.pre hl) (j6 hv)) λxs n O=>?_))))
 have hsz:=O.r.sz
 have hlen:=q.1
 have hz:xs.size<=sizeLine:=rwL eu (A33 hsz hlen)
 refine zzB (ii slot_list_append ⟨_,O.x,rfl⟩ entry_list_append (?_:ax _ _ (xl l.a (·.push x) >>=λb=>ret .none) _ _ s1) (args_list_append _ _))
 refine zzB (qf O.x rfl (zzP ⟨.none,rfl,zzP ?_⟩) hz (by rw[Array.size_push];exact qu hz))
 have st:=O.put (k:=s1.toks) S1 (λxs=>xs.push x) (by simpa using O.r.append (.cons r1 .nil))
 have N2:Nx ρ noW s ρ1 _:=N1.trans (st.2 _)
 exact hK st.1 N2.wr (F.nx N2) q.2
def lQ(K:ItK C)(tgt:AF)(t:TF)(bf:Lo->MH->LK->Prop):Nat->K.σ->Lo->MH->LK->Prop
 |0,_,_,_,_=>fh
 |n+1,it,lo,H,Q=>K.nx it H λres H1=>match res with
  |none=>Q lo H1
  |some p=>tgt p.1 lo H1 λlo1 H2=>t lo1 H2 λb H3=>bif b then bf lo1 H3 (λlo2 H4=>lQ K tgt t bf n p.2 lo2 H4 Q) else lQ K tgt t bf n p.2 lo1 H3 Q
inductive CEnd(C:Cx)(env:Env)(ρ0:ae Lc)(s0:aw)(ai:Nat)(l:Lc)(Q:LK)(s':aw):Prop
 |mk {ρ':ae Lc}{lo':Lo}{H':MH} (S:Sim C H' ρ' s') (N:Nx ρ0 (LW env) s0 ρ' s') (F:Fm C env ρ' s' lo') (hl:ρ'[ai]? =aa l) (q:Q lo' H'):CEnd C env ρ0 s0 ai l Q s'
def pS(C:Cx)(env:Env)(ρ0:ae Lc)(s0:aw)(ai:Nat)(l:Lc)(Q:LK):tu->aw->Prop
 | .ok _,s'=>CEnd C env ρ0 s0 ai l Q s'
 | .error _,_=>fh
theorem qV{K:ItK C}(hg:gens[d]? =aa ⟨target,iter,ifs,0⟩)(ht:ALV C r env target tgt)(hc:CnV C r env ifs t)(hb:BV C r env elt gens sc pos d bf)(htg:K.tg target/\K.need<=r):∀ (n:Nat){A:gj}{s0 s:aw}{ρ0 ρ:ae Lc}{H:MH}{lo:Lo}{it:K.σ}{x:bx}{X:dv->Prop}{Q:LK},Room r A->ρ[ai]? =aa l->Nx ρ0 (LW env) s0 ρ s->Sim C H ρ s->Fm C env ρ s lo-> K.rel ρ s it x X->Apart C env ρ s0 X->lQ K tgt t (bf ai) n it lo H Q-> ma C.M A (.compLoop (.ListComp elt gens sc pos) d x (.ref l.a) env) (pS C env ρ0 s0 ai l Q) s
 |0,_,_,_,_,_,_,_,_,_,_,_,_,_,_,_,_,_,_,e=>e.elim
 |n+1,A,s0,s,ρ0,ρ,H,lo,it,x,X,Q,hr,hl,N,S,F,R,hX,e=>by
  refine oq (rwL (Around.under_of_weight (c:=.compLoop (.ListComp elt gens sc pos) d x (.ref l.a) env) rfl rfl) ?_)
  show ax C.M A ((compTurn (.ListComp elt gens sc pos) d x (.ref l.a) env).onRaise (λx=>do ug x env;ot x)) _ _ s
  refine qd (ir (Q:=λfin s'=>match fin with
   | .done f=>pS C env ρ0 s0 ai l Q (.ok f) s'
   | .again c'=>c'.quiet=ak/\ma C.M A c' (pS C env ρ0 s0 ai l Q) s') (E:=NoE) ?_ (λg g z=>z) (λg g z=>z.elim))
  unfold compTurn
  simp only[hg]
  refine zzB (ie (zzB (wmN (K.next htg.2 hr S R hX.two e) λo s1 p=>?_)))
  cases p with
  |done S1 I1 q=>exact zzP ⟨S1,N.stepI I1 (λb q=>(hX b q).1),F.nextI I1 (λb hw q=>(hX b q).2.2.2 hw),aT I1.pre hl,q⟩
  |item S1 I1 ru R1 q=>
   have hl1:=aT I1.pre hl
   have hX1:Apart C env _ s0 X:=λb q=>let ⟨o',e'⟩:=K.alive R b q;⟨(hX b q).1,I1.owns e' (hX b q).2.1,(hX b q).2.2⟩
   refine zzB (wmN (K.lgo (target:=target) hr S1 R1 htg.1 hX1.two) λg s2 p=>(xAA p λS2 I2 R2=>?_))
   have N2:=(N.stepI I1 (λb q=>(hX b q).1)).stepI I2 (λb q=>(hX b q).1)
   have fin:∀ {ρ5 s5 lo5 H5},Sim C H5 ρ5 s5->Nx _ (LW env) s2 ρ5 s5->Fm C env ρ5 s5 lo5->lQ K tgt t (bf ai) n _ lo5 H5 Q->
     ma C.M A (.compLoop (.ListComp elt gens sc pos) d x (.ref l.a) env) (pS C env ρ0 s0 ai l Q) s5:=λS5 N5 F5 e5=>
    qV hg ht hc hb htg n hr (aT N5.pre hl1) (N2.trans N5) S5 F5 (K.mono R2 N5.pre N5.imm (λb o q e'=>N5.kp b o e' (hX1 b q).2.1 (λz=>(hX b q).2.2.2 (.inl z))))
     (λb z=>let ⟨o',e'⟩:=K.alive R2 b z;⟨(hX b z).1,N5.own e' (hX1 b z).2.1,(hX b z).2.2⟩) e5
   refine zzB (eS.run (α:=wq) (ht hr S2 ((F.nextI I1 (λb hw q=>(hX b q).2.2.2 hw)).nextI I2 (λb hw q=>(hX1 b q).2.2.2 hw)) (ru.mono I2.pre I2.imm) q) λS3 N3 F3 q=>zzB (wmN (hc hr S3 F3 q) λok s4 p=>?_))
   obtain⟨S4,N4,q⟩:=p
   have N34:=N3.trans N4.wr
   cases ok with
   |false=>
    exact rwL (bc (by decide)) (zzP ⟨rfl,fin S4 N34 (F3.nx N4) q⟩)
   |true=>
    refine rwL (bo rfl) ?_
    show ax C.M A (yP elt gens sc pos d (.ref l.a) env (again (Code.compLoop (elt.ListComp gens sc pos) d x (Value.ref l.a) env))) _ _ s4
    exact hb hr S4 (F3.nx N4) (aT N34.pre hl1) q λS5 N5 F5 q=>zzP ⟨rfl,fin S5 (N34.trans N5) F5 q⟩
theorem lH{K:ItK C}(hg:gens[d]? =aa ⟨target,iter,ifs,0⟩)(hre:iP K)(ht:ALV C r env target tgt)(hc:CnV C r env ifs t)(hb:BV C r env elt gens sc pos d bf)(htg:K.tg target/\K.need<=r)(n:Nat){it:K.σ}(hr:Room r A)(hl:ρ[ai]? =aa l)(N:Nx ρ0 (LW env) s0 ρ s)(S:Sim C H ρ s)(F:Fm C env ρ s lo)(R:K.rel ρ s it x X)(hX:Apart C env ρ s0 X)(e:lQ K tgt t (bf ai) n it lo H Q):ma C.M A (.compStart (.ListComp elt gens sc pos) d x (.ref l.a) env) (pS C env ρ0 s0 ai l Q) s:=by
 have L:=qV hg ht hc hb htg n hr hl N S F R hX e
 have hnx:∃ y,K.nx it H y:=by
  cases n with
  |zero=>exact e.elim
  |succ n=>exact⟨_,e⟩
 refine oq (rwL (Around.under_of_weight (c:=.compStart (.ListComp elt gens sc pos) d x (.ref l.a) env) rfl rfl) ?_)
 show ax _ _ ((compStart (.ListComp elt gens sc pos) d x (.ref l.a) env).onRaise (λx=>do ug x env;vu theWindowsPlace)) _ _ s
 refine qd (ir (Q:=λfin s'=>match fin with
   | .done f=>pS C env ρ0 s0 ai l Q (.ok f) s'
   | .again c'=>c'.quiet=ak/\ma C.M A c' (pS C env ρ0 s0 ai l Q) s') (E:=NoE) ?_ (λq q z=>z) (λq q z=>z.elim))
 unfold compStart
 have hcl:clausesOf (.ListComp elt gens sc pos)=gens:=rfl
 refine rwL hcl (rwL hg ((zzB (wpAny_askSetting (wpAny_ite ?_))):ax _ _ (ask >>=_) _ _ s))
 split
 ·first
   |exact zzB (zzP (zzP (And.intro rfl L)))
   |exact zzP (And.intro rfl L)
 ·refine zzB (sy (?_:ax _ _ (vu iter.pos >>=_) _ _ s))
  exact zzB (ie (zzB (hre S hnx R (zzP (And.intro rfl L)))))
theorem aEz{K:ItK C}{s2:aw}(F:Fm C env ρ s lo)(hX:∀ b,X b->s.heap.get? b=none/\¬Own ρ2 b/\C.base.heap.get? b=none):Apart C env ρ2 s X:=λb q=>
 ⟨(hX b q).1,(hX b q).2.1,(hX b q).2.2,λhw=>by refine xE (F.alv b hw) λo e'=>?_;rw[(hX b q).1]at e';exact aF e'⟩
def qW(K:ItK C)(fi:IF K)(tgt:AF)(t:TF)(bf:BF):BF:=λai lo H Q=>fi lo H λit H1=>∃ n,lQ K tgt t (bf ai) n it lo H1 Q
theorem BV.more{K:ItK C}{fi:IF K}(hg:gens[d+1]? =aa ⟨target,iter,ifs,0⟩)(hre:iP K)(hi:IV K r env iter fi)(ht:ALV C r env target tgt)(hc:CnV C r env ifs t)(hb:BV C r env elt gens sc pos (d+1) bf)(htg:K.tg target/\K.need<=r)(hs:∀ x,iw iter env x=pure x):BV C r env elt gens sc pos d (qW K fi tgt t bf):=by
 intro A s ρ H lo Q0 ai l Q K' hr S F hl q hK
 unfold yP
 refine rwL hg (zzB (wmN (hi hr S F q) λx s1 h=>zzB (ie (rwL (bc (by simp)) (zzB (kg (hs x) (zzB (bz (rwL (bc (by simp)) (wmN h λy s2 p=>zzB (wpAny_runOwn ?_)))))))))))
 obtain⟨S2,N2,R2,hX,n,q⟩:=p
 refine ny (lH (s0:=s) (ρ0:=ρ) hg hre ht hc hb htg n (A:=A.mark none) hr (aT N2.pre hl) N2.wr S2 (F.nx N2) R2 (aEz (K:=K) (s2:=s2) F hX) q) λrr s3 hL=>?_
 cases rr with
 |ok f=>obtain⟨S3,N3,F3,_,q⟩:=hL;exact hK S3 N3 F3 q
 |error _=>exact hL.elim
theorem aEf{s:aw}{pos:Pos}{use:aj (bx->Sem wq)}(hcl:clausesOf e=g::gs)(hs:∀ x,iw g.iter env x=pure x)(K:l9 env sc hid)(hcell:∀ p∈sc.names,p.2= .free->∃ c,env.cells.lookup p.1=aa c)(h:ax M A first (λx s₁=>ax M A (wu x) (λit s₂=>ax M A newAcc (λacc s₃=> ∀ h₄,h₄.Ns s₃.heap.objs.size (λq=>none)->Heap.SameBut s₃.heap.objs.size (s₃.heap.push {cls:=.type "dict",data:=.dict #[]}) h₄->
    ma M A (.compStart e 0 it acc (gY env sc s₃.heap.objs.size)) (λr s'=>match r with
     | .ok _=>(∃ m,s'.heap.Ns s₃.heap.objs.size m)/\(match use with
      |none=>∀ h',Heap.SameBut s₃.heap.objs.size s'.heap h'->Q acc {s' with heap:=h'}
      |some u=>ax M A (u acc) (λq s''=>(∃ m,s''.heap.Ns s₃.heap.objs.size m)/\∀ h',Heap.SameBut s₃.heap.objs.size s''.heap h'->Q .none {s'' with heap:=h'}) E s')
     | .error _=>fh) {s₃ with heap:=h₄}) E s₂) E s₁) E s):
  ax M A (xx e sc env pos newAcc am first use) Q E s:=by
 unfold xx
 refine rwL hcl ?_
 refine zzB (ir h (λx s₁ h₁=>zzB (ie (zzB (kg (hs x) (zzB (bz (ir h₁ (λit s₂ h₂=>
  wpAny_standIf (zzB (ir h₂ (λacc s₃ h₃=>?_) λq q h'=>h'))) λq q h'=>h'))))))) λq q h'=>h')
 have hclo:∀ {Q':ae (Str×dv)->aw->Prop},Q' (gX env.cells sc.names []) s₃->ax M A (closureFor sc env) Q' E s₃:=by
  intro Q' hq
  unfold closureFor
  refine zzB (kG (env:=env) _ (λname kind cs=>by cases hkc:kind==NameKind.free<;>simp [hkc]) sc.names [] _ hcell (zzP hq))
 refine zzB (hclo ?_)
 have hnc:∀ x∈sc.names,x.2≠ .cell:=λx hx=>by have:=jd.mp K.nocell x hx;simpa using this
 refine zzB (wpAny_newFunctionEnv (binds:=[]) hnc (λx hx=>by cases hx) (λh₄ hn₄ hs₄=>?_) K.kind)
 have hc4:=h₃ h₄ hn₄ hs₄
 dsimp only
 have hv:∀ (vs:ae (Str×lh)),(∀ p∈vs,p∈sc.names)->∀ p∈vs,p.2= .local->(gY env sc s₃.heap.objs.size).kindOf p.1=aa .local:=λvs hvs p hp hl=>by
  have h1:=jd.mp K.hid p (hvs p hp)
  rw[hl]at h1
  simp at h1
  rw[jT,h1.1]
  rfl
 have hk':(gY env sc s₃.heap.objs.size).scope.kind= .function:=K.kind
 refine bz (zzB (ox (bz (wpAny_run (ny hc4 λr s' hr=>?_)))))
 cases r with
 |error x=>exact hr.elim
 |ok f=>
  refine xA hr λz92 hq=>?_;obtain⟨m,hm⟩:=z92
  cases use with
  |none=>
   exact zzB (bz (wpAny_comp_letGo (cenv:=gY env sc s₃.heap.objs.size) hk' _ s' m (hv _ λp hp=>((List.mem_filter.mp (List.mem_reverse.mp hp)).1)) hm λh' m' q hs'=>zzP (hq h' hs')))
  |some u=>
   refine zzB (sy (zzB (bz (ir hq ?_ λq q z=>z))))
   rintro _ s'' ⟨⟨m',hm'⟩,hq'⟩
   refine zzB (wpAny_comp_letGo (cenv:=gY env sc s₃.heap.objs.size) hk' _ s'' m' (hv _ λp hp=>(Or.elim (cu.mp hp) (λz=>((List.mem_filter.mp (List.mem_reverse.mp (List.mem_of_mem_drop z))).1)) λz=>?_)) hm' λh' m' q hs'=>zzP (hq' h' hs'))
   ·exact(List.mem_filter.mp (List.mem_reverse.mp (List.mem_of_mem_take z))).1
def fK(K:ItK C)(hid:ae Str)(fi:IF K)(tgt:AF)(t:TF)(bf:BF):EF:=λlo H Q=>fi lo H λit H1=>∃ n,lQ K tgt t (bf H1.length) n it (hide hid lo) (H1++[.list []]) λq H2=>Q (.ref H1.length) H2
inductive CoEnd(C:Cx)(ρ:ae Lc)(s:aw)(Q0:EK)(x:bx)(L:dv)(s':aw):Prop
 |mk {ρ' v H'} (hL:s.heap.get? L=none) (S:Sim C H' ρ' s') (N:Nx ρ (λb=>b=L) s ρ' s') (r:VR ρ' s'.heap x v) (ho: ¬Own ρ' L) (hb:C.base.heap.get? L=none) (hm:∃ m,s'.heap.Ns L m) (q:Q0 v H'):CoEnd C ρ s Q0 x L s'
set_option tactic.hygienic true in
theorem qT{K:ItK C}{fi:IF K}(hsc:l9 env sc hid)(hh:(hid.all λx=>sc.names.lookup x != aa .free)=ak)(hre:iP K)(hi:IV K r env iter fi)(ht:∀ L,ALV C r (gY env sc L) target tgt)(hc:∀ L,CnV C r (gY env sc L) ifs t)(hb:∀ L,BV C r (gY env sc L) elt (⟨target,iter,ifs,0⟩::gs) sc pos 0 bf)(htg:K.tg target/\K.need<=r)(hs:∀ x,iw iter env x=pure x)(hr:Room r A)(S:Sim C H ρ s)(F:Fm C env ρ s lo)(q:fK K hid fi tgt t bf lo H Q0)(hQ:∀ x L s',CoEnd C ρ s Q0 x L s'-> (match use with
    |none=>∀ h',Heap.SameBut L s'.heap h'->Q x {s' with heap:=h'}
    |some u=>ax C.M A (u x) (λa s''=>(∃ m,s''.heap.Ns L m)/\∀ h',Heap.SameBut L s''.heap h'->Q .none {s'' with heap:=h'}) NoE s')):
  ax C.M A (xx (.ListComp elt (⟨target,iter,ifs,0⟩::gs) sc pos) sc env p (newList []) am (jl iter env) use) Q NoE s:=by
 have hfc:∀ p∈sc.names,p.2= .free->∃ c,env.cells.lookup p.1=aa c:=λp hp hk=>by
  have h:=jd.mp hsc.free p hp
  rw[hk]at h
  exact iQ (F.cl p.1 (.inl (uh h))) λc a a hc a=>⟨c,hc⟩
 refine aEf (g:=⟨target,iter,ifs,0⟩) rfl hs hsc hfc (wmN (hi hr S F q) λx s1 hx=>wmN hx λy s2 p=>?_)
 obtain⟨S2,N2,R2,hX,n,q⟩:=p
 rename_i ρ2 X it H1
 refine wpAny_newList ?_ (by refine rwL eu ?_;decide)
 have S3:=S2.alloc {cls:=.type "list",data:=.seq #[]} (.list []) ⟨rfl,rfl,#[],0,Heap.get?_push_size _ rfl,.nil⟩
 have N3:Nx ρ2 noW s2 _ _:=.alloc {cls:=.type "list",data:=.seq #[]}
 have hl:=S2.last (l:=⟨s2.heap.objs.size,s2.heap.objs.size,none⟩)
 intro h4 hn4 hs4
 have N23:=N2.trans N3
 have keep4:∀ b o,(s2.heap.push {cls:=.type "list",data:=.seq #[]}).get? b=aa o->h4.get? b=aa o:=λb o e=>rwL (hs4.2 b (uk (Heap.lt_size e))) (Heap.get?_push_of_some _ e)
 have N34:=N3.trans (.ext (k:=s2.toks) keep4)
 have hLf:(s2.heap.push {cls:=.type "list",data:=.seq #[]}).get? (s2.heap.push {cls:=.type "list",data:=.seq #[]}).objs.size=none:=bC _
 refine xA (Fm.comp hsc (λx hx=>by have:=jd.mp hh x hx;simpa using this) S3 ((F.nx N2).nx N3) hLf hn4 (.ext (k:=s2.toks) keep4)) λF4 hW=>?_
 have hLs:=(cV N23 S3 hLf).1
 refine ny (lH (s0:=s) (ρ0:=ρ) (env:=gY env sc (s2.heap.push {cls:=.type "list",data:=.seq #[]}).objs.size) rfl hre (ht _) (hc _) (hb _) htg n hr hl (N2.trans N34).wr (S3.ext (k:=s2.toks) keep4) F4
  (K.mono R2 N3.pre N34.imm (λb o qb e'=>N34.kp b o e' (hX b qb).2.1 (λz=>z))) (λb qb=>?_) q) λrr s5 hL=>?_
 ·refine xE (K.alive R2 b qb) λo' e'=>⟨(hX b qb).1,N34.own e' (hX b qb).2.1,(hX b qb).2.2,λhw=>(Or.elim (hW b hw) (λz=>?_) λz=>?_)⟩
  ·refine xE (N3.al _ _ e') λo2 e2=>?_
   rw[z,hLf]at e2;exact aF e2
  ·refine xE (F.alv b z) λo e''=>?_;rw[(hX b qb).1]at e'';exact aF e''
 ·cases rr with
  |error _=>exact hL.elim
  |ok f=>
   obtain⟨S5,N5,F5,hl5,q5⟩:=hL
   refine xEA F5.ns λm5 hm5 a=>?_
   have fw:=F5.own _ (.inl rfl)
   exact⟨⟨m5,hm5⟩,hQ _ _ s5 ⟨hLs,S5,N5,.ref hl5,fw.1,fw.2,⟨m5,hm5⟩,q5⟩⟩
theorem Sim.sameL(S:Sim C H ρ s)(hs:Heap.SameBut L s.heap h')(hm:∃ m,s.heap.Ns L m)(ho: ¬Own ρ L)(hb:C.base.heap.get? L=none):Sim C H ρ {s with heap:=h'}/\Imm s.heap h':=by
 refine m7 hm λm o es ep g hd q=>?_
 have hi: ¬aX o:=by simp [aX,hd]
 exact⟨S.side (k:=s.toks) hs g hi ho hb,dQ hs g hi⟩
theorem Nx.gone(N1:Nx ρ (λb=>b=L\/W b) s ρ1 s1)(hL:s.heap.get? L=none)(hs':Heap.SameBut L s1.heap h')(im:Imm s1.heap h'):Nx ρ W s ρ1 {s1 with heap:=h'}:=by
 have ne:∀ {b o},s.heap.get? b=aa o->b≠L:=λe q=>by rw[q,hL]at e;exact aF e
 exact⟨N1.pre,N1.new,λb o e hb' hw=>(hs'.2 b (ne e)).trans (N1.kp b o e hb' λq=>q.elim (ne e) hw),N1.imm.trans im,λb o e=>let ⟨o',e'⟩:=N1.al b o e;⟨o',(hs'.2 b (ne e)).trans e'⟩⟩
theorem EV.comp{K:ItK C}{fi:IF K}(hsc:l9 env sc hid)(hh:(hid.all λx=>sc.names.lookup x != aa .free)=ak)(hre:iP K)(hi:IV K r env iter fi)(ht:∀ L,ALV C r (gY env sc L) target tgt)(hc:∀ L,CnV C r (gY env sc L) ifs t)(hb:∀ L,BV C r (gY env sc L) elt (⟨target,iter,ifs,0⟩::gs) sc pos 0 bf)(htg:K.tg target/\K.need<=r)(hs:∀ x,iw iter env x=pure x):EV C r env (.ListComp elt (⟨target,iter,ifs,0⟩::gs) sc pos) (fK K hid fi tgt t bf):=by
 intro A s ρ H lo Q hr S F q
 rw[eval_ListComp]
 refine qT hsc hh hre hi ht hc hb htg hs hr S F q λx L s1 p h' hs'=>?_
 obtain⟨hL,S1,N1,r1,ho,hb,hm,q⟩:=p
 exact xA (S1.sameL hs' hm ho hb) λS2 im=>⟨S2,(N1.weaken λb q=>.inl q).gone hL hs' im,r1.mono (cx _) im,q⟩
set_option tactic.hygienic true in
theorem SV.assignC{K:ItK C}{fi:IF K}(hk:env.kindOf x=aa .local)(hsw:uf (.ListComp elt (⟨target,iter,ifs,0⟩::gs) sc pos) (aa (.Name x pos')) spos.line env=pure ak)(hsc:l9 env sc hid)(hh:(hid.all λx=>sc.names.lookup x != aa .free)=ak)(hre:iP K)(hi:IV K r env iter fi)(ht:∀ L,ALV C r (gY env sc L) target tgt)(hc:∀ L,CnV C r (gY env sc L) ifs t)(hb:∀ L,BV C r (gY env sc L) elt (⟨target,iter,ifs,0⟩::gs) sc pos 0 bf)(htg:K.tg target/\K.need<=r)(hs:∀ x,iw iter env x=pure x):SV C r env (.Assign [.Name x pos'] (.ListComp elt (⟨target,iter,ifs,0⟩::gs) sc pos) spos) (aY x (fK K hid fi tgt t bf)):=by
 intro A s ρ H lo Q hr S F q
 refine rwL (exec_Assign_Name_used _ _ _ _ hsw) (zzB (ie (zzB ?_)))
 rw[arm_evalThenUse_ListComp]
 refine zzB (qT hsc hh hre hi ht hc hb htg hs hr S F q λu L s1 p=>?_)
 obtain⟨hL,S1,N1,r1,ho,hbL,hm,q⟩:=p
 rename_i ρ2 v2 H2
 have F1:=F.next N1 (λb hb e=>by subst e;refine xE (F.alv _ hb) λo e'=>?_;rw[hL]at e';exact aF e')
 have hLW: ¬Wr env L:=λhw=>by refine xE (F.alv _ hw) λo e'=>?_;rw[hL]at e';exact aF e'
 refine((uz (gZ S1 F1 r1 (s9 (.inl hk)) λs2 S2 N2 F2=>(nR hm λm o es ep g hr'=>?_))):ax C.M A (PySem.assign (.Name x pos') env u) _ _ s1)
 have hm2:∃ m,s2.heap.Ns L m:=⟨m,o,es,ep,N2.kp L o g ho hLW,hr'⟩
 refine⟨hm2,λh' hs'=>zzP (zzP (xA (S2.sameL hs' hm2 ho hbL) λS3 im=>?_))⟩
 have N3:NxI ρ2 (λb=>b=L) s2 ρ2 {s2 with heap:=h'}:=⟨cx _,λl hl=>by simp at hl,λb o e a hne=>(hs'.2 b hne).trans e,im,λb o e hne=>⟨o,(hs'.2 b hne).trans e⟩⟩
 exact⟨S3,((N1.weaken λb q=>.inl q).trans (N2.weaken λb q=>.inr q)).gone hL hs' im,F2.nextI N3 (λb hb e=>by subst e;exact hLW hb),.next,q⟩
def Sg(M:zs)(A:gj)(c:Code)(t:Sem PySem.Fin)(fs:ae Frame)(Φ:End->aw->Prop)(s:aw):Prop:=∀ Γ p,Γ.code=c->Γ.Woken A->∃ e s',Runs M Γ p t fs s e s'/\Φ e s'
theorem iB{K:α->Sem PySem.Fin}{H:bx->Sem PySem.Fin}{gd}{lv}(h:ax M (A.over c fs) m (λa s'=>Sg M A c (K a) fs Φ s') (λx s'=>Sg M A c (H x) fs Φ s') s):Sg M A c (m.wrap K H gd lv) fs Φ s:=by
 rintro Γ p rfl hΓ
 exact runs_wrap_of_wp K H gd lv m (h (Γ.over fs) p (hΓ.over fs)) (λa p' s' h'=>h' Γ p' rfl hΓ) (λx p' s' h'=>h' Γ p' rfl hΓ)
theorem aA9(h:Sg M A c (k ()) fs Φ s):Sg M A c (.at p' k) fs Φ s:=iB (m:=vu p') (K:=k) (H:=.raise) (gd:=id) (lv:=id) (ie h)
theorem aA7(h:Sg M A c (k ()) fs Φ s):Sg M A c (.point l k) fs Φ s:=iB (m:=point) (K:=k) (H:=.raise) (gd:=id) (lv:=λq=>l) (wpAny_point h)
theorem aF2{h}{g}{l}(hc:∀ p,Sg M A c' (M.den c') (.ret k h g l c p []::fs) Φ s):Sg M A c (.call c' h g l k) fs Φ s:=by
 rintro Γ p rfl hΓ
 exact iW (hc p (Γ.goto c') p rfl (hΓ.goto c')) λe s' hr he=>⟨e,s',runs_call_seg hr,he⟩
theorem aF1{k}{h}{g}{l}{c₁}{p₁}{kp}(r:tu)(hk:Sg M A c₁ (k r) fs Φ s):Sg M A c (leafOf r) (.ret k h g l c₁ p₁ kp::fs) Φ s:=by
 rintro Γ p rfl hΓ
 exact iW (hk (Γ.goto c₁) p₁ rfl (hΓ.goto c₁)) λe s' hr he=>⟨e,s',Runs.pop r hr,he⟩
theorem nZ(hq:c'.quiet=ak)(hc:Sg M A c' (M.den c') fs Φ s):Sg M A c (.pure (.again c')) fs Φ s:=by
 rintro Γ p rfl hΓ
 exact iW (hc (Γ.goto c') p rfl (hΓ.goto c')) λe s' hr he=>⟨e,s',Runs.head (c₁:=c') (λq q x=>.again hq x) hr,he⟩
theorem aA8(r:tu)(h:Φ (.ret r) s):Sg M A c (leafOf r) [] Φ s:=by
 rintro Γ p rfl _
 exact⟨.ret r,s,Runs.leaf r,h⟩
theorem aA4{v}{g}{l}(hfs:splitAtGen fs=none)(h:∀ p,Φ (.susp v g l k c p fs) s):Sg M A c (.yield v g l k) fs Φ s:=by
 rintro Γ p rfl _
 exact⟨_,s,Runs.yield' fs hfs,h p⟩
def aFf(M:zs)(A:gj)(Φ:End->aw->Prop)(r:Resume)(s:aw):th->Prop
 | .fresh c=>r= .send .none/\Sg M A c (M.den c) [] Φ s
 | .suspended k₀ _ c _ fs _=>Sg M A c (k₀ r) fs Φ s
 |_=>fh
theorem vE{Q:α->aw->Prop}(hg:s.gens[g]? =aa gs)(hgo:aFf M A Φ r (s.setGen g .running) gs)(hq:∀ e s₁,Φ e s₁->e.quiet=ak/\ax M A (k e.result) Q E (s₁.setGen g e.genState)):ax M A (.resume g r l k) Q E s:=by
 intro Γ p hΓ
 rw[Sem.wp_resume]
 have hB:∀ c,(Γ.wake c p).Woken A:=λc=>hΓ.wake c p
 cases gs with
 |fresh c=>
  refine xA hgo λz93 hs=>?_;clear hgo;subst z93
  exact iW (hs (Γ.wake c p) p rfl (hB c)) λe₁ s₁ hr he=>⟨_,_,by unfold Wakes;exact rwL hg ⟨e₁,s₁,hr,(hq e₁ s₁ he).1,rfl,rfl⟩,(hq e₁ s₁ he).2 Γ p hΓ⟩
 |suspended k₀ l₀ c₀ p₀ fs₀ cl=>
  exact iW (hgo (Γ.wake c₀ p) p₀ rfl (hB c₀)) λe₁ s₁ hr he=>⟨_,_,by unfold Wakes;exact rwL hg ⟨e₁,s₁,hr,(hq e₁ s₁ he).1,rfl,rfl⟩,(hq e₁ s₁ he).2 Γ p hΓ⟩
 |running=>exact hgo.elim
 |finished=>exact hgo.elim
theorem cM{K:zd->Sem PySem.Fin}{H:bx->Sem PySem.Fin}{st:jz}(h:Sg M A c ((exec st env).wrap (λf=>match f with | .next=>(pc rest env).wrap K H gd lv |f=>K f) H gd lv) fs Φ s):Sg M A c ((pc (st::rest) env).wrap K H gd lv) fs Φ s:=by rw[wl];exact h
theorem jV{K:zd->Sem PySem.Fin}{H:bx->Sem PySem.Fin}(hfs:splitAtGen fs=none)(hgd:gd am=am)(h:ax M (A.over c fs) (jl e env) (λv s'=>∀ l k p,k (.send .none)=K .next->Φ (.susp v am l k c p fs) s') (λx s'=>Sg M A c (H x) fs Φ s') s)(hco:env.scope.isCoroutine=am)(hi:tm env=am):Sg M A c ((exec (.Expr (.Yield (aa e) ypos) pos) env).wrap K H gd lv) fs Φ s:=by
 rw[exec_Expr env _ pos hi rfl]
 show Sg M A c (.at pos λq=>((jl e env >>=λv=>(vu ypos >>=λq=>yieldOut env v)) >>=λx=>
  dropValue (.Yield (aa e) ypos) pos x).wrap K H gd lv) fs Φ s
 have hy:∀ v,yieldOut env v=yieldValue v:=λv=>by simp only[yieldOut,hco,gu,jh]
 simp only[hy]
 refine aA9 ?_
 rw[Sem.bind_eq_wrap',Sem.bind_eq_wrap',Sem.wrap_wrap,Sem.wrap_wrap]
 refine iB (ir h (λv s' h'=>(aA9 ?_)) λq q x=>x)
 have key:=λl k p hk=>h' l k p hk
 rw[<-hgd]at key
 exact aA4 hfs λp=>key _ _ p rfl
theorem sg_If{K:zd->Sem PySem.Fin}{H:bx->Sem PySem.Fin}(h:ax M (A.over c fs) (isTrue test env (jl test env)) (λb s'=>if b=ak then Sg M A c ((pc b1 env).wrap K H gd lv) fs Φ s' else Sg M A c ((pc b2 env).wrap K H gd lv) fs Φ s') (λx s'=>Sg M A c (H x) fs Φ s') s):Sg M A c ((exec (.If test b1 b2 pos) env).wrap K H gd lv) fs Φ s:=by
 rw[exec_If]
 show Sg M A c (.at _ λq=>(isTrue test env (jl test env) >>=λb=>if b=ak then pc b1 env else pc b2 env).wrap K H gd lv) fs Φ s
 refine aA9 ?_
 rw[Sem.bind_eq_wrap',Sem.wrap_wrap]
 refine iB (ir h (λb s' hb=>?_) λq q x=>x)
 cases b with
 |true=>exact hb
 |false=>exact hb
theorem mX{items}(hh:A.handled=none)(hit:s.heap.IsListIter it l i)(hl:s.heap.IsList l items)(hx:items[i]? =none)(hQ:∀ h' o',h'.get? it=aa o'->¬aX o'->Heap.ExtBut it s.heap h'->Q none {s with heap:=h'}):ax (iz prog w) A (mi (.ref it)) Q E s:=by
 refine dY (id hit) λo ho hc hd=>wV hl λol hol q nl hdl=>?_
 unfold mi
 refine zzB (ox (fx (name:=Str.ofString "__next__") hit.typeIs lr
  (ii lr hit.typeIs tz ?_ (ut _))))
 refine(?_:ax _ _ (xy (.ref it) 0 >>=_) _ _ s)
 refine zzB (jv ho hd (x:=.ref l) rfl ((rwL (bc (show¬((Value.ref l==Value.none)=ak) from Bool.false_ne_true)) ?_):ax _ _ (if (Value.ref l==Value.none)=ak then _ else _) _ _ s))
 show ax _ _ (xy (.ref it) 1 >>=_) _ _ s
 refine zzB (jv ho hd (x:=.int i 0) rfl ((zzB (jb hol hdl ?_)):ax _ _ (vm (.ref l) >>=_) _ _ s))
 simp only[mr,hx]
 refine zzB (sy (zzB (qy ho hd (by simp) (?_:ax _ _ (uu (.type "StopIteration") [] >>=_) _ _ _))))
 refine zzB ?_
 simp only[uu,zj]
 refine zzB (iy (zzB (m:=lx _ _) (kg (a:=Value.none) (by first |rfl | (rw[lx];rfl)) (iy ?_ (by size_fits)))) (by size_fits))
 delta raiseNew;dsimp only
 refine zzB (vh (rwL (show A.in1.handled=none from hh) (zzB (zzP (xa ?_)))))
 refine zzB (nk (T:="StopIteration") (b:=ak) ⟨_,Heap.get?_push_size _ rfl,rfl⟩ uv ?_)
 have hd':=Obj.data_mapFields hd (·.setIfInBounds 0 Value.none)
 refine zzP (hQ _ _ (Heap.get?_push_of_some _ (Heap.get?_push_of_some _ (Heap.get?_update_self _ ho (Obj.isFreed_of_fields hd')))) ?_ (((Heap.SameBut.update ..).extBut.push _).push _))
 have hc':=(Obj.cls_mapFields o (·.setIfInBounds 0 Value.none)).trans hc
 simp [aX,hd',hc']
def MO.iv:MO->aj (Nat×Nat) | .itr (aa p)=>aa p |_=>none
theorem iv_mo(e:m.bind MO.iv=aa p):m=aa (.itr (aa p)):=by
 refine xEA (aq.mp e) λm z94 h2=>rwL z94 ?_
 cases m with
 |itr o=>cases o with
  |none=>exact aF h2
  |some q=>refine cxS h2 ?_;rfl
 |_=>exact aF h2
inductive ItrN(C:Cx)(H:MH)(ρ:ae Lc)(s:aw)(j ci k:Nat)(vs:ae V):aj bx->aw->Prop
 |item {u v s'} (hv:vs[k]? =aa v) (S:Sim C (H.set j (.itr (aa (ci,k+1)))) ρ s') (N:∀ W,Nx ρ W s ρ s') (r:VR ρ s'.heap u v):ItrN C H ρ s j ci k vs (aa u) s'
 |done {s'} (hv:vs[k]? =none) (S:Sim C (H.set j (.itr none)) ρ s') (N:∀ W,Nx ρ W s ρ s'):ItrN C H ρ s j ci k vs none s'
theorem aCv(hr:Room r A)(S:Sim C H ρ s)(hl:ρ[j]? =aa l)(hH:H[j]? =aa (.itr (aa (ci,k))))(hv:lst H (.ref ci)=aa vs):ax C.M A (mi (.ref l.a)) (ItrN C H ρ s j ci k vs) NoE s:=by
 refine qC (S.objs j _ l hH hl) λg1 g2 li hli hit=>cC (cJ S (.ref hli) hv) λad xs q1 q2 q3=>?_
 cases q1
 refine dY (id hit) λo h2 h3 h4=>?_
 have hi: ¬aX o:=rO h3 h4
 cases hvk:vs[k]? with
 |some v=>
  refine xEA (q3.get hvk) λu hu ru=>qp hit q2 (by simpa using hu) λh' hit2 hs=>?_
  have st:=S.put (k:=s.toks) (h':=h') (m':=.itr (aa (ci,k+1))) hl hH g1 h2 hi hs (let ⟨o2,e2,_⟩:=hit2;⟨o2,e2⟩) (by intro _ h;cases h) (by intro _ h;cases h) λim=>⟨g1,g2,li,hli,hit2⟩
  exact .item hvk st.1 st.2 (ru.nx (st.2 noW))
 |none=>
  refine mX hr.1 hit q2 (Array.getElem?_eq_none (rwL q3.sz (getElem?_eq_none_iff.mp hvk))) λh' o' e' hi' he=>?_
  have im:Imm s.heap h':=λb x e i=>by
   by_cases q:b=l.a
   ·subst q;rw[h2]at e;refine cyS e λzq=>?_;subst zq;exact bw i hi
   ·exact he b x q e
  refine .done hvk (S.upd hl hH (by intro _ h;cases h) (λb o e hb=>he b o (λq=>hb (.inl q)) e) im rfl rfl ⟨g1,g2,o',e',hi'⟩ (by intro _ h;cases h))
   λW=>⟨cx _,λl hl=>by simp at hl,λb x e ho c=>he b x (λq=>ho (q▸⟨l,dm hl,.inl rfl⟩)) e,im,λb x e=>?_⟩
  by_cases q:b=l.a
  ·exact rwL q ⟨o',e'⟩
  ·exact⟨x,he b x q e⟩
structure GSh where
 fd:wy
 fa:dv
 pre:ae jz
 target:Expr
 iter:Expr
 cond:Expr
 ye:Expr
 cond2:Expr
 ye2:Expr
 s1:jz
 s3:jz
 s2:ae jz
 p1:Pos
 p2:Pos
 p3:Pos
 p4:Pos
 p5:Pos
 p6:Pos
 p7:Pos
namespace GSh
def yst(G:GSh):jz:=.Expr (.Yield (aa G.ye) G.p1) G.p2
def yst2(G:GSh):jz:=.Expr (.Yield (aa G.ye2) G.p3) G.p4
def lb(G:GSh):ae jz:=[.If G.cond (G.s1::G.yst::G.s2) [] G.p5,G.s3]
def if2(G:GSh):jz:=.If G.cond2 [G.yst2] [] G.p6
def tail(G:GSh):ae jz:=[.For G.target G.iter G.lb [] G.p7,G.if2]
def body(G:GSh):ae jz:=G.pre++G.tail
def envL(G:GSh)(L:dv):Env:=ij G.fd L G.fa
def Kf:zd->Sem PySem.Fin:=λf=>.pure (.done (.ret (match f with | .ret v=>v |_=>.none)))
def Hf(env:Env):bx->Sem PySem.Fin:=λe=>(leaving env e).wrap (λq=>.raise e) .raise id id
def Ka(G:GSh)(env:Env):zd->Sem PySem.Fin:=λf=>match f with | .next=>(pc [G.if2] env).wrap Kf (Hf env) id id |f=>Kf f
def fs1(G:GSh)(env:Env)(p:Pos):ae Frame:=[.ret (λr=>((match r with | .ok f=>(.pure f:Sem zd) | .error e=>.raise e).onRaise fun(x:bx)=>do
    if (<-xy x 1)==Value.none then xb "frame.own-activation:exception-without-traceback"
    setFlight x env.frame).wrap (G.Ka env) (Hf env) id id) none am [] (.func G.body env) p []]
def loopC(G:GSh)(env:Env)(x:bx):Code:=.forLoop G.target x G.lb [] env
def Kt(G:GSh)(env:Env)(x:bx):zd->Sem PySem.Fin:=λf=>match f with
 | .next | .cont=>.pure (.again (G.loopC env x))
 | .brk=>.pure (.done .next)
 | .ret v=>.pure (.done (.ret v))
def Ht(env:Env):bx->Sem PySem.Fin:=λe=>(do ug e env;ot e:Sem wq).wrap (λq=>.raise e) .raise id id
def K1(G:GSh)(env:Env)(x:bx):zd->Sem PySem.Fin:=λf=>match f with | .next=>(pc [G.s3] env).wrap (G.Kt env x) (Ht env) id id |f=>G.Kt env x f
def T1(G:GSh)(env:Env)(x:bx):Sem PySem.Fin:=(pc G.s2 env).wrap (G.K1 env x) (Ht env) id id
end GSh
theorem d4{f:α->Sem β}{K:β->Sem PySem.Fin}{H:bx->Sem PySem.Fin}(h:ax M (A.over c fs) m (λa s'=>Sg M A c ((f a).wrap K H gd lv) fs Φ s') (λx s'=>Sg M A c (H x) fs Φ s') s):Sg M A c ((m >>=f).wrap K H gd lv) fs Φ s:=by
 rw[Sem.bind_eq_wrap',Sem.wrap_wrap]
 exact iB h
theorem gR{K:zd->Sem PySem.Fin}{H:bx->Sem PySem.Fin}:∀ (a b:ae jz),(pc (a++b) env).wrap K H id id=(pc a env).wrap (λf=>match f with | .next=>(pc b env).wrap K H id id |f=>K f) H id id
 | [],b=>rfl
 |st::a,b=>by
  rw[jw,wl,wl]
  refine Sem.wrap_congr _ _ _ (λf=>?_) (λq=>rfl)
  cases f with
  |next=>exact gR a b
  |_=>rfl
inductive lJ where
 |yl (it:Nat) (lo:Lo) (v:V)
 |yr (lo:Lo) (v:V)
 |done
structure GFn where
 pre:SF
 it:EF
 tgt:AF
 fc:TF
 f1:SF
 fy:EF
 f2:SF
 f3:SF
 fc2:TF
 fy2:EF
namespace GFn
def tail(g:GFn)(lo:Lo)(H:MH)(Q:lJ->MH->Prop):Prop:=g.fc2 lo H λb H2=>bif b then g.fy2 lo H2 λv H3=>Q (.yr lo v) H3 else Q .done H2
def nextK(k:Lo->MH->Prop):SK:=λfl lo H=>match fl with | .next=>k lo H |_=>fh
section
variable(g:GFn)
def loopN:Nat->Nat->Lo->MH->(lJ->MH->Prop)->Prop
 |0,_,_,_,_=>fh
 |n+1,it,lo,H,Q=>Lf (H[it]?.bind MO.iv) λp=>Lf (lst H (.ref p.1)) λvs=>match vs[p.2]? with
  |some v=>g.tgt v lo (H.set it (.itr (aa (p.1,p.2+1)))) λlo1 H1=>g.fc lo1 H1 λb H2=>
    bif b then g.f1 lo1 H2 (nextK λlo2 H3=>g.fy lo2 H3 λv H4=>Q (.yl it lo2 v) H4)
    else g.f3 lo1 H2 (nextK λlo2 H3=>loopN n it lo2 H3 Q)
  |none=>g.tail lo (H.set it (.itr none)) Q
end
section
variable(g:GFn)
def loop(it:Nat)(lo:Lo)(H:MH)(Q:lJ->MH->Prop):Prop:=∃ n,g.loopN n it lo H Q
end
def start(g:GFn)(lo:Lo)(H:MH)(Q:lJ->MH->Prop):Prop:=g.pre lo H (nextK λlo1 H1=>g.it lo1 H1 λa H2=>Lf a.rf λci=>(∃ vs,lst H2 (.ref ci)=aa vs)/\g.loop H2.length lo1 (H2++[.itr (aa (ci,0))]) Q)
def more(g:GFn)(it:Nat)(lo:Lo)(H:MH)(Q:lJ->MH->Prop):Prop:=g.f2 lo H (nextK λlo1 H1=>g.f3 lo1 H1 (nextK λlo2 H2=>g.loop it lo2 H2 Q))
end GFn
structure GV(C:Cx)(r:Nat)(G:GSh)(g:GFn)(env:Env):Prop where
 pre:SVs C r env G.pre g.pre
 it:EV C r env G.iter g.it
 tgt:AV C r env G.target g.tgt
 fc:TV C r env G.cond g.fc
 f1:SV C r env G.s1 g.f1
 fy:EV C r env G.ye g.fy
 f2:SVs C r env G.s2 g.f2
 f3:SV C r env G.s3 g.f3
 fc2:TV C r env G.cond2 g.fc2
 fy2:EV C r env G.ye2 g.fy2
 hs:∀ x,iw G.iter env x=pure x
 co:env.scope.isCoroutine=am
 ia:tm env=am
inductive GΦ(C:Cx)(G:GSh)(env:Env)(ρ0:ae Lc)(s0:aw)(Q:lJ->MH->Prop):End->aw->Prop
 |yl {ρ1 H1 it lo v li u l k p p' s'} (S:Sim C H1 ρ1 s') (N:Nx ρ0 (Wr env) s0 ρ1 s') (hk:k (.send .none)=G.T1 env (.ref li.a)) (hli:ρ1[it]? =aa li) (r:VR ρ1 s'.heap u v) (F:Fm C env ρ1 s' lo) (q:Q (.yl it lo v) H1):
   GΦ C G env ρ0 s0 Q (.susp u am l k (G.loopC env (.ref li.a)) p (G.fs1 env p')) s'
 |yr {ρ1 H1 lo v u l k p s'} (S:Sim C H1 ρ1 s') (N:Nx ρ0 (Wr env) s0 ρ1 s') (hk:k (.send .none)=GSh.Kf .next) (r:VR ρ1 s'.heap u v) (F:Fm C env ρ1 s' lo) (q:Q (.yr lo v) H1):GΦ C G env ρ0 s0 Q (.susp u am l k (.func G.body env) p []) s'
 |done {ρ1 H1 s'} (S:Sim C H1 ρ1 s') (N:Nx ρ0 (Wr env) s0 ρ1 s') (o:∃ o,s'.heap.get? env.locals=aa o/\¬aX o) (q:Q .done H1):GΦ C G env ρ0 s0 Q (.ret (.ok (.ret .none))) s'
theorem Room.overF{b:ae jz}(hr:Room (r+1) A):Room r (A.over (.func b e) []):=by
 refine xAA hr λh1 h2 h3=>?_
 have w1:(Code.func b e).weight=1:=rfl
 have w2:(Code.func b e).cUnits=3:=rfl
 refine⟨h1,(rwL w1 (A34 h2):A.depth+0+(Code.func b e).weight+10*r<=700),?_⟩
 ·exact(rwL w2 (A35 h3):A.units+0+(Code.func b e).cUnits+40*r<=8000)
theorem Room.overL{G:GSh}(hr:Room (r+1) A):Room r (A.over (G.loopC e x) (G.fs1 e p)):=by
 refine xAA hr λh1 h2 h3=>⟨h1,(A36 h2:A.depth+(1+0)+0+10*r<=700),?_⟩
 ·exact(A37 h3:A.units+(3+0)+0+40*r<=8000)
theorem Fm.locals(F:Fm C env ρ s lo):∃ o,s.heap.get? env.locals=aa o/\¬aX o:=by
 refine xEA F.ns λm z95 q=>?_;obtain⟨o,es,ep,g,hd,_⟩:=z95
 exact⟨o,g,by unfold aX;exact rwL hd id⟩
theorem aC2(V:GV C r G g env)(hr:Room (r+1) A)(N:Nx ρ0 (Wr env) s0 ρ s)(S:Sim C H ρ s)(F:Fm C env ρ s lo)(e:g.tail lo H Q):Sg C.M A (.func G.body env) ((pc [G.if2] env).wrap GSh.Kf (GSh.Hf env) id id) [] (GΦ C G env ρ0 s0 Q) s:=cM (sg_If (TV.run V.fc2 hr.overF S F e λ{b s1 a a} S1 N1 e=>by
  cases b with
  |true=>
   exact rwL (bo rfl) (cM (jV rfl rfl (EV.run V.fy2 hr.overF S1 (F.nx N1) e λS2 N2 r2 q l k p hk=>.yr S2 ((N.trans N1.wr).trans N2.wr) hk r2 ((F.nx N1).nx N2) q) V.co V.ia))
  |false=>
   exact rwL (bc (by decide)) (aA8 (.ok (.ret .none)) (.done S1 (N.trans N1.wr) (F.nx N1).locals e))))
theorem aA6{st:jz}{K:zd->Sem PySem.Fin}(V:SV C r env st f)(hr:Room r (A.over c fs))(S:Sim C H ρ s)(F:Fm C env ρ s lo)(e:f lo H (GFn.nextK k))(h:∀ {s1 ρ1 H1 lo1},Sim C H1 ρ1 s1->Nx ρ (Wr env) s ρ1 s1->Fm C env ρ1 s1 lo1->k lo1 H1->Sg C.M A c ((pc rest env).wrap K Hh id id) fs Φ s1):Sg C.M A c ((pc (st::rest) env).wrap K Hh id id) fs Φ s:=cM (iB (wmN (V hr S F e) λfw s1 p=>by
  obtain⟨S1,N1,F1,r1,q⟩:=p
  cases r1 with
  |next=>exact h S1 N1 F1 q
  |brk=>exact q.elim
  |cont=>exact q.elim
  |ret _=>exact q.elim))
theorem aA5{st:ae jz}{K:zd->Sem PySem.Fin}(V:SVs C r env st f)(hr:Room r (A.over c fs))(S:Sim C H ρ s)(F:Fm C env ρ s lo)(e:f lo H (GFn.nextK k))(h:∀ {s1 ρ1 H1 lo1},Sim C H1 ρ1 s1->Nx ρ (Wr env) s ρ1 s1->Fm C env ρ1 s1 lo1->k lo1 H1->Sg C.M A c (K .next) fs Φ s1):Sg C.M A c ((pc st env).wrap K Hh id id) fs Φ s:=iB (wmN (V hr S F e) λfw s1 p=>by
  obtain⟨S1,N1,F1,r1,q⟩:=p
  cases r1 with
  |next=>exact h S1 N1 F1 q
  |brk=>exact q.elim
  |cont=>exact q.elim
  |ret _=>exact q.elim)
theorem oW(V:GV C r G g env):∀ (n:Nat){A:gj}{s0 s:aw}{ρ0 ρ:ae Lc}{H:MH}{lo:Lo}{Q:lJ->MH->Prop},Room (r+1) A->Nx ρ0 (Wr env) s0 ρ s->Sim C H ρ s->Fm C env ρ s lo->ρ[it]? =aa li-> g.loopN n it lo H Q->Sg C.M A (G.loopC env (.ref li.a)) (C.M.den (G.loopC env (.ref li.a))) (G.fs1 env p) (GΦ C G env ρ0 s0 Q) s
 |0,_,_,_,_,_,_,_,_,_,_,_,_,_,e=>e.elim
 |n+1,A,s0,s,ρ0,ρ,H,lo,Q,hr,N,S,F,hli,e=>by
  show Sg C.M A _ ((forTurn G.target (.ref li.a) G.lb [] env).onRaise (λx=>do ug x env;ot x)) _ _ s
  rw[Sem.onRaise_eq_wrap]
  have eH:(λe=>(do ug e env;ot e:Sem wq).bind λc=>(.raise e:Sem PySem.Fin))=GSh.Ht env:=by
   funext e
   exact Sem.bind_eq_wrap _ _
  refine rwL eH ?_
  unfold forTurn
  refine d4 (ie (e.elim λck hH e=>e.elim λvs hv e=>?_))
  have hH:=iv_mo hH
  refine d4 (qd (wmN (aCv (r:=r) (A:=A.over (G.loopC env (.ref li.a)) (G.fs1 env p)) hr.overL S hli hH hv) λo s1 m1=>?_))
  cases m1 with
  |item hvk S1 N1 ru=>
   rw[hvk]at e
   obtain⟨_,_,lc,_,oi,hoi,hci,_⟩:=S1.objs it _ li (by exact rwL (fe (List.getElem?_eq_some_iff.mp hH).1) rfl) hli
   show Sg C.M A _ ((wk G.target (.ref li.a) _ >>=λc=>(wt G.target env _ >>=λc=>(pc G.lb env >>=λf=>match f with
    | .next | .cont=>again (.forLoop G.target (.ref li.a) G.lb [] env)
    | .brk=>pure (.done .next)
    | .ret v=>pure (.done (.ret v))))).wrap .pure (GSh.Ht env) id id) _ _ s1
   refine d4 (jP (T:="list_iterator") hoi hci (by decide) (d4 (eS.run (α:=wq) (V.tgt hr.overL S1 (F.nx (N1 _)) ru e) λ{c s2 c c c} S2 N2 F2 e=>?_)))
   rw[Sem.bind_eq_wrap',Sem.wrap_wrap]
   refine(ei (λt=>Sg C.M A (G.loopC env (.ref li.a)) t (G.fs1 env p) (GΦ C G env ρ0 s0 Q) s2) (Sem.wrap_congr (K':=G.Kt env (.ref li.a)) (H':=GSh.Ht env) (pc G.lb env) _ _ (λf=>by cases f<;>rfl) (λc=>rfl))).mpr ?_
   show Sg C.M A _ ((pc G.lb env).wrap (G.Kt env (.ref li.a)) (GSh.Ht env) id id) _ _ s2
   have N02:=(N.trans (N1 _)).trans N2
   have hli2:=aT N2.pre hli
   refine cM (sg_If (TV.run V.fc hr.overL S2 F2 e λ{b s3 c c} S3 N3 e=>?_))
   cases b with
   |true=>
    refine rwL (bo rfl) ?_
    exact aA6 V.f1 hr.overL S3 (F2.nx N3) e λS4 N4 F4 e=>cM (jV rfl rfl (EV.run V.fy hr.overL S4 F4 e λS5 N5 r5 q l k p' hk=>
     .yl S5 (((N02.trans N3.wr).trans N4).trans N5.wr) hk (aT N5.pre (aT N4.pre (aT N3.pre hli2))) r5 (F4.nx N5) q) V.co V.ia)
   |false=>
    exact rwL (bc (by decide)) (aA6 V.f3 hr.overL S3 (F2.nx N3) e λS4 N4 F4 e=>nZ rfl (oW V n hr ((N02.trans N3.wr).trans N4) S4 F4 (aT N4.pre (aT N3.pre hli2)) e))
  |done hvk S1 N1=>
   rw[hvk]at e
   refine((nZ rfl (?_:Sg C.M A (.block [] env) (leafOf (.ok .next)) _ _ s1)):Sg C.M A _ (.pure (.again (.block [] env))) _ _ s1)
   exact aF1 (.ok .next) (aC2 V hr (N.trans (N1 _)) S1 (F.nx (N1 _)) e)
theorem aC8(V:GV C r G g env)(hr:Room (r+1) A)(N:Nx ρ0 (Wr env) s0 ρ s)(S:Sim C H ρ s)(F:Fm C env ρ s lo)(hli:ρ[it]? =aa li)(e:g.more it lo H Q):Sg C.M A (G.loopC env (.ref li.a)) (G.T1 env (.ref li.a)) (G.fs1 env p) (GΦ C G env ρ0 s0 Q) s:=aA5 V.f2 hr.overL S F e λS1 N1 F1 e=>aA6 V.f3 hr.overL S1 F1 e λS2 N2 F2 e=>xE e λn e=>nZ rfl (oW V n hr ((N.trans N1).trans N2) S2 F2 (aT N2.pre (aT N1.pre hli)) e)
theorem zP(V:GV C r G g env)(hr:Room (r+1) A)(N:Nx ρ0 (Wr env) s0 ρ s)(S:Sim C H ρ s)(F:Fm C env ρ s lo)(e:g.start lo H Q):Sg C.M A (.func G.body env) (C.M.den (.func G.body env)) [] (GΦ C G env ρ0 s0 Q) s:=by
 show Sg C.M A _ (.point [] λq=>((pc G.body env).onRaise (leaving env)) >>=_) [] _ s
 refine aA7 ?_
 rw[Sem.onRaise_eq_wrap,Sem.bind_eq_wrap',Sem.wrap_wrap]
 refine rwL (Sem.wrap_congr (pc G.body env) _ _ (K':=GSh.Kf) (H':=GSh.Hf env) (λf=>by cases f<;>rfl) (λe=>by rw[Sem.bind_eq_wrap,Sem.wrap_wrap];rfl)) ?_
 show Sg C.M A _ ((pc (G.pre++G.tail) env).wrap GSh.Kf (GSh.Hf env) id id) [] _ s
 rw[gR]
 refine aA5 V.pre hr.overF S F e λ{s1 q q q} S1 N1 F1 e=>?_
 unfold GSh.tail
 refine cM ?_
 rw[exec_For]
 refine d4 (ie (d4 (EV.run V.it hr.overF S1 F1 e λ{x s2 ρ2 v2 H2} S2 N2 r2 e=>e.elim λci hi e=>(xAE e λz96 n e=>?_))));obtain⟨vs,hv⟩:=z96
 refine dY (r2.toRef hi) λlc q hx gl=>rwL hx (cC (cJ S2 (.ref gl) hv) λad xs ha q2 q3=>?_)
 cases ha
 refine d4 (kg (V.hs _) (d4 (ie (d4 (bz (qr q2 ?_))))))
 have S3:=S2.alloc {cls:=.type "list_iterator",data:=.fields #[.ref lc.a,.int 0 0]} (.itr (aa (ci,0))) ⟨rfl,rfl,lc,aT (ou _ _) gl,_,Heap.get?_push_size _ rfl,rfl,rfl⟩
 have N3:Nx ρ2 noW s2 _ _:=.alloc {cls:=.type "list_iterator",data:=.fields #[.ref lc.a,.int 0 0]}
 exact aF2 λp=>oW V n (li:=⟨s2.heap.objs.size,s2.heap.objs.size,none⟩) hr (((N.trans N1).trans N2.wr).trans N3.wr) S3 ((F1.nx N2).nx N3) S2.last e
theorem aC9(N:Nx ρ0 (Wr env) s0 ρ s)(S:Sim C H ρ s)(F:Fm C env ρ s lo)(q:Q .done H):Sg C.M A (.func G.body env) (GSh.Kf .next) [] (GΦ C G env ρ0 s0 Q) s:=aA8 (.ok (.ret .none)) (.done S N F.locals q)
def gS(G:GSh)(ρ:ae Lc)(s:aw)(L:dv)(lo:Lo):Prop:=∃ m,s.heap.Ns L m/\∀ x,(G.envL L).kindOf x=aa .local->OV ρ s.heap (m x) (lo x)
def fS(G:GSh)(ρ:ae Lc)(s:aw)(l:Lc)(gn:Gn):Prop:=∃ g nm qn,l.g=aa g/\s.heap.get? l.a=aa {cls:=.type "generator",data:=.fields #[.int (g:Nat) 0,nm,qn]}/\(match gn with
  | .fresh lo=>l.d≠l.a/\gS G ρ s l.d lo/\s.gens[g]? =aa (.fresh (.func G.body (G.envL l.d)))
  | .loop it lo=>l.d≠l.a/\gS G ρ s l.d lo/\∃ li k l' p p',ρ[it]? =aa li/\k (.send .none)=G.T1 (G.envL l.d) (.ref li.a)/\s.gens[g]? =aa (.suspended k l' (G.loopC (G.envL l.d) (.ref li.a)) p (G.fs1 (G.envL l.d) p') am)
  | .last lo=>l.d≠l.a/\gS G ρ s l.d lo/\∃ k l' p,k (.send .none)=GSh.Kf .next/\s.gens[g]? =aa (.suspended k l' (.func G.body (G.envL l.d)) p [] am)
  | .run=>l.d=l.a/\s.gens[g]? =aa .running
  | .fin=>l.d≠l.a/\(∃ o,s.heap.get? l.d=aa o/\¬aX o)/\s.gens[g]? =aa .finished)
theorem gS.mono(h:gS G ρ s L lo)(e:ρ<+:ρ')(i:Imm s.heap s'.heap)(h2:∀ o,s.heap.get? L=aa o->s'.heap.get? L=aa o):gS G ρ' s' L lo:=by
 refine xEA h λm z97 hm=>?_;obtain⟨o,es,ep,ho,q⟩:=z97
 exact⟨m,⟨o,es,ep,h2 _ ho,q⟩,λx hx=>(hm x hx).mono e i⟩
theorem fS.mono(e:ρ<+:ρ')(i:Imm s.heap s'.heap)(h1:∀ o,s.heap.get? l.a=aa o->s'.heap.get? l.a=aa o)(h2:∀ o,s.heap.get? l.d=aa o->s'.heap.get? l.d=aa o)(h3:∀ k x,l.g=aa k->s.gens[k]? =aa x->s'.gens[k]? =aa x)(h:fS G ρ s l gn):fS G ρ' s' l gn:=by
 refine gV h λg nm qn hg ho hm=>⟨g,nm,qn,hg,h1 _ ho,?_⟩
 cases gn with
 |fresh lo=>exact⟨hm.1,hm.2.1.mono e i h2,h3 _ _ hg hm.2.2⟩
 |loop it lo=>exact hZ hm λa b li k l' p p' x y z=>⟨a,b.mono e i h2,li,k,l',p,p',aT e x,y,h3 _ _ hg z⟩
 |last lo=>exact qZ hm λa b k l' p y z=>⟨a,b.mono e i h2,k,l',p,y,h3 _ _ hg z⟩
 |run=>exact⟨hm.1,h3 _ _ hg hm.2⟩
 |fin=>exact xAA hm λa z98 z=>xEA z98 λo x y=>⟨a,⟨o,h2 _ x,y⟩,h3 _ _ hg z⟩
theorem fS.here(h:fS G ρ s l gn):∃ o o',s.heap.get? l.a=aa o/\s.heap.get? l.d=aa o'/\¬aX o/\¬aX o':=by
 refine gV h λg nm qn hg ho hm=>?_
 have hi: ¬aX ({cls:=.type "generator",data:=.fields #[.int (g:Nat) 0,nm,qn]}:Obj):=by simp [aX]
 have fr:∀ lo,gS G ρ s l.d lo->∃ o o',s.heap.get? l.a=aa o/\s.heap.get? l.d=aa o'/\¬aX o/\¬aX o':=by
  rintro lo ⟨m,⟨o,es,ep,h2,hd,_⟩,_⟩
  exact⟨_,o,ho,h2,hi,by simp [aX,hd]⟩
 cases gn with
 |fresh lo=>exact fr lo hm.2.1
 |loop it lo=>exact fr lo hm.2.1
 |last lo=>exact fr lo hm.2.1
 |run=>exact rwL hm.1 ⟨_,_,ho,ho,hi,hi⟩
 |fin=>exact xAA hm λq z99 q=>xEA z99 λo x y=>⟨_,o,ho,x,hi,y⟩
def mkCx(prog:ux)(w:ko)(base:aw)(lim:base.heap.NoLimit)(G:GSh):Cx:=⟨prog,w,base,lim,fS G,fS.mono,fS.here⟩
structure GCx(C:Cx)(G:GSh):Prop where
 gr:∀ ρ s l gn,C.GR ρ s l gn=fS G ρ s l gn
 loc:∀ L x,(G.envL L).kindOf x≠aa .cell/\(G.envL L).kindOf x≠aa .free
 cells:∀ L,(G.envL L).cells= []
 kind:G.fd.scope.kind= .function
 gl:G.fd.globals=gh
 bi:G.fd.builtins=kz
def jM(ρ ρ':ae Lc):Prop:=∀ (n:Nat) (l:Lc),ρ[n]? =aa l->∃ l',ρ'[n]? =aa l'/\l'.a=l.a
theorem VR.sameA(e:jM ρ ρ')(r:VR ρ h u v):VR ρ' h u v:=by
 refine VR.rec (motive_1:=λu v q=>VR ρ' h u v) (motive_2:=λus vs q=>VRs ρ' h us vs) .none .bool .int .str ?_ ?_ ?_ ?_ ?_ ?_ .raw .nil ?_ r
 ·intro a xs n vs g _ ih;exact .tup g ih
 ·intro a n x y z t u v dd g;exact .mat g
 ·intro n l g;exact xEA (e n l g) λl' h1 h2=>rwR h2 (.ref h1)
 ·intro a n l g g';refine xEA (e n l g) λl' h1 h2=>?_;rw[<-h2]at g';exact .dget h1 g'
 ·intro a n l g g';refine xEA (e n l g) λl' h1 h2=>?_;rw[<-h2]at g';exact .scon h1 g'
 ·intro a x y z t u v g;exact .rng g
 ·intro u us v vs _ _ a b;exact .cons a b
theorem VRs.sameA(e:jM ρ ρ'):∀ {us:ae bx}{vs:ae V},VRs ρ h us vs->VRs ρ' h us vs
 |_,_,.nil=>.nil
 |_,_,.cons a b=>.cons (a.sameA e) (b.sameA e)
theorem OV.sameA(e:jM ρ ρ'):∀ {u:aj bx}{v:aj V},OV ρ h u v->OV ρ' h u v
 |none,none,_=>trivial
 |some _,aa _,x=>VR.sameA e x
 |none,aa _,x=>False.elim x
 |some _,none,x=>False.elim x
theorem OR.sameA(hG:GCx C G)(e:jM ρ ρ')(r:OR C ρ s l m):OR C ρ' s l m:=by
 cases m with
 |list vs=>exact j4 r λa g xs n x y=>⟨a,g,xs,n,x,y.sameA e⟩
 |ro vs=>exact qC r λa g xs x y=>⟨a,g,xs,x,y.sameA e⟩
 |dict n f=>exact vD r λa g kvs q x y=>⟨a,g,kvs,q,x,λk=>(y k).sameA e⟩
 |eset=>exact r
 |inst fs=>exact nU r λg ne o m a b c d=>⟨g,ne,o,m,a,b,c,λk=>(d k).sameA e⟩
 |gen gn=>
  have r':C.GR ρ s l gn:=r
  rw[hG.gr]at r'
  refine(?_:C.GR ρ' s l gn)
  rw[hG.gr]
  refine gV r' λg nm qn hg ho hm=>⟨g,nm,qn,hg,ho,?_⟩
  have fr:∀ {lo},gS G ρ s l.d lo->gS G ρ' s l.d lo:=λ⟨m,hn,hm⟩=>⟨m,hn,λx hx=>(hm x hx).sameA e⟩
  cases gn with
  |fresh lo=>exact⟨hm.1,fr hm.2.1,hm.2.2⟩
  |loop it lo=>refine hZ hm λa b li k l' p p' x y z=>xEA (e _ _ x) λli' h1 h2=>?_;rw[<-h2]at y z;exact⟨a,fr b,li',k,l',p,p',h1,y,z⟩
  |last lo=>exact xAA hm λa b c=>⟨a,fr b,c⟩
  |run=>exact hm
  |fin=>exact hm
 |itr p=>cases p with
  |none=>exact r
  |some p=>refine qC r λa g li x y=>xEA (e _ _ x) λli' h1 h2=>?_;rw[<-h2]at y;exact⟨a,g,li',h1,y⟩
theorem vK{s:aw}(h:k≠g)(e:s.gens[k]? =aa y):(s.setGen g x).gens[k]? =aa y:=by
 show(s.gens.setIfInBounds g x)[k]? =aa y
 exact rwL (Array.getElem?_setIfInBounds_ne (Ne.symm h)) e
theorem gP{s:aw}(e:s.gens[g]? =aa y):(s.setGen g x).gens[g]? =aa x:=by
 have:g<s.gens.size:=by
  refine Or.elim (uj g s.gens.size) (λq=>q) λq=>?_
  ·rw[Array.getElem?_eq_none q]at e;exact aF e
 show(s.gens.setIfInBounds g x)[g]? =aa x
 simp [Array.getElem?_setIfInBounds,this]
theorem tM{s:aw}(h:tf s.gens)(hx:x.bare=ak):tf (s.setGen g x).gens:=by
 intro y hy
 have hy':y∈s.gens.setIfInBounds g x:=hy
 obtain⟨i,hi,rfl⟩:=Array.mem_iff_getElem.mp hy'
 refine rwL (Array.getElem_setIfInBounds (by simpa using hi)) ?_
 split
 ·exact hx
 ·exact h _ (Array.getElem_mem _)
theorem lN(hl:ρ[gi]? =aa l)(ha:l'.a=l.a):jM ρ (ρ.set gi l'):=by
 intro n x hx
 have hlt:gi<ρ.length:=(List.getElem?_eq_some_iff.mp hl).1
 by_cases q:n=gi
 ·subst q
  rw[hl]at hx;refine cxS hx ?_
  exact⟨l',by exact rwL (fe hlt) rfl,ha⟩
 ·exact⟨x,rwL (jf (Ne.symm q)) hx,rfl⟩
theorem Sim.swapG(hG:GCx C G)(S:Sim C H ρ s)(hl:ρ[gi]? =aa l)(hH:H[gi]? =aa (.gen gn))(ha:l'.a=l.a)(hg:l'.g=l.g)(hg':l.g=aa g)(hb:gs.bare=ak)(hd:l'.d=l.a\/l'.d=l.d\/(¬Own ρ l'.d/\C.base.heap.get? l'.d=none))(hnew:fS G (ρ.set gi l') (s.setGen g gs) l' gn'):Sim C (H.set gi (.gen gn')) (ρ.set gi l') (s.setGen g gs):=by
 have hlt:gi<ρ.length:=(List.getElem?_eq_some_iff.mp hl).1
 have hltH:gi<H.length:=rwR S.len hlt
 have sa:=lN hl ha
 have other:∀ {i:Nat}{x:Lc},(ρ.set gi l')[i]? =aa x->(i=gi/\x=l')\/(i≠gi/\ρ[i]? =aa x):=by
  intro i x h
  by_cases q:i=gi
  ·subst q;rw[fe hlt]at h;exact cxS h (.inl ⟨rfl,rfl⟩)
  ·rw[jf (Ne.symm q)]at h;exact .inr ⟨q,h⟩
 have hbase:C.base.heap.get? l.a=none/\C.base.heap.get? l.d=none:=by
  rcases S.ro gi l hl with ⟨vs,e⟩ |e
  ·rw[hH]at e;cases e
  ·exact e
 have hdis:∀ {i:Nat}{x:Lc},i≠gi->ρ[i]? =aa x->∀ b,l'.has b->¬x.has b:=by
  intro i x q hx b hb hxb
  have old:=S.disj gi i l x hl hx (Ne.symm q)
  rcases hb with rfl |rfl
  ·rw[ha]at hxb;exact old _ (.inl rfl) hxb
  ·rcases hd with e |e |⟨e,_⟩
   ·rw[e]at hxb;exact old _ (.inl rfl) hxb
   ·rw[e]at hxb;exact old _ (.inr rfl) hxb
   ·exact e ⟨x,dm hx,hxb⟩
 refine⟨by simp [S.len],S.keep,λi m x hm hx=>?_,λi x hx=>?_,λi j li lj hi hj hne b h1 h2=>?_,λi j li lj k hi hj hne h1 h2=>?_,S.os,tM S.bare hb⟩
 ·rcases other hx with ⟨rfl,rfl⟩ |⟨q,hx'⟩
  ·rw[fe hltH]at hm;refine cxS hm ?_
   refine(?_:C.GR _ _ _ _)
   rw[hG.gr];exact hnew
  ·rw[jf (Ne.symm q)]at hm
   have o:=S.objs i m x hm hx'
   have o2:OR C ρ (s.setGen g gs) x m:=o.mono (s:=s) (s':=s.setGen g gs) (cx _) (.refl _) (λc e=>e) (λc e=>e) (λk y hk e=>vK (λz=>S.disjG i gi x l k hx' hl q hk (by exact rwL hg' (rwL z rfl))) e)
   exact OR.sameA hG sa o2
 ·rcases other hx with ⟨rfl,rfl⟩ |⟨q,hx'⟩
  ·right
   refine⟨rwL ha hbase.1,?_⟩
   rcases hd with e |e |⟨_,e⟩
   ·exact rwL e hbase.1
   ·exact rwL e hbase.2
   ·exact e
  ·exact rwL (jf (Ne.symm q)) (S.ro i x hx')
 ·rcases other hi with ⟨rfl,rfl⟩ |⟨q,hi'⟩<;>rcases other hj with ⟨rfl,rfl⟩ |⟨q',hj'⟩
  ·exact hne rfl
  ·exact hdis q' hj' b h1 h2
  ·exact hdis q hi' b h2 h1
  ·exact S.disj i j li lj hi' hj' hne b h1 h2
 ·rcases other hi with ⟨rfl,rfl⟩ |⟨q,hi'⟩<;>rcases other hj with ⟨rfl,rfl⟩ |⟨q',hj'⟩
  ·exact hne rfl
  ·exact S.disjG i j l lj k hl hj' hne (hg▸h1) h2
  ·exact S.disjG i j li l k hi' hl hne h1 (hg▸h2)
  ·exact S.disjG i j li lj k hi' hj' hne h1 h2
def MO.gn:MO->aj Gn | .gen g=>aa g |_=>none
theorem aC7(e:m.bind MO.gn=aa g):m=aa (.gen g):=by
 refine xEA (aq.mp e) λm z101 h2=>rwL z101 ?_
 cases m with
 |gen g=>refine cxS h2 ?_;rfl
 |_=>exact aF h2
def GFn.finK(gi:Nat)(Q:aj V->MH->Prop):lJ->MH->Prop:=λo H1=>H1[gi]? =aa (.gen .run)/\match o with
 | .yl it lo v=>Q (aa v) (H1.set gi (.gen (.loop it lo)))
 | .yr lo v=>Q (aa v) (H1.set gi (.gen (.last lo)))
 | .done=>Q none (H1.set gi (.gen .fin))
def GFn.nxG(g:GFn)(gi:Nat)(H:MH)(Q:aj V->MH->Prop):Gn->Prop
 | .fresh lo=>g.start lo (H.set gi (.gen .run)) (GFn.finK gi Q)
 | .loop it lo=>g.more it lo (H.set gi (.gen .run)) (GFn.finK gi Q)
 | .last lo=>Q none (H.set gi (.gen .fin))
 | .fin=>Q none H
 | .run=>fh
def GFn.nx(g:GFn)(gi:Nat)(H:MH)(Q:aj V->MH->Prop):Prop:=Lf (H[gi]?.bind MO.gn) λgn=>g.nxG gi H Q gn
theorem Fm.ofFrm(hG:GCx C G)(h:gS G ρ s L lo)(ho: ¬Own ρ L)(hb:C.base.heap.get? L=none):Fm C (G.envL L) ρ s lo:=by
 refine xEA h λm hn hm=>?_
 have hc:∀ x c,(G.envL L).cells.lookup x=aa c->fh:=λx c e=>by rw[hG.cells]at e;exact aF e
 refine⟨hG.kind,hG.gl,hG.bi,⟨m,hn,hm⟩,λx hx=>?_,λb hb'=>?_,λx c e=>(hc x c e).elim,λx y c e=>(hc x c e).elim,λb hb'=>?_⟩
 ·refine Or.elim hx (λhx=>(bw hx (hG.loc L x).1)) λhx=>?_
  ·exact bw hx (hG.loc L x).2
 ·rcases hb' with rfl |⟨x,e⟩
  ·exact⟨ho,hb⟩
  ·exact(hc x b e).elim
 ·rcases hb' with rfl |⟨x,e⟩
  ·exact iQ hn λo q q g q=>⟨o,g⟩
  ·exact(hc x b e).elim
theorem Fm.frm(F:Fm C (G.envL L) ρ s lo):gS G ρ s L lo:=F.ns
theorem wZ{R:α->aw->Prop}(hh:A.handled=none)(hE:∀ x h',(∃ o,h'.get? x=aa o/\o.cls= .type "StopIteration")->(∀ b o,s.heap.get? b=aa o->h'.get? b=aa o)->E (.ref x) {s with heap:=h'}):
  ax (iz prog w) A (uu (.type "StopIteration") [] >>=λx=>(raiseNew x:Sem β) >>=k') R E s:=by
 refine zzB ?_
 simp only[uu,zj]
 refine zzB (iy (zzB (m:=lx _ _) (kg (a:=Value.none) (by first |rfl | (rw[lx];rfl)) (iy (zzB ?_) (by size_fits)))) (by size_fits))
 delta raiseNew;dsimp only
 exact zzB (vh (rwL hh (zzB (zzP (xa (hE _ _ ⟨_,Heap.get?_push_size _ rfl,rfl⟩ (λb o hb=>Heap.get?_push_of_some _ (Heap.get?_push_of_some _ hb))))))))
theorem Sim.extS(S:Sim C H ρ s)(hk:∀ b o,s.heap.get? b=aa o->h'.get? b=aa o):Sim C H ρ {s with heap:=h'}:=S.ext (k:=s.toks) hk
structure GAt(C:Cx)(G:GSh)(H:MH)(ρ:ae Lc)(s:aw)(gi gk:Nat)(l:Lc):Prop where
 S:Sim C H ρ s
 hl:ρ[gi]? =aa l
 hH:∃ gn,H[gi]? =aa (.gen gn)
 hg:l.g=aa gk
 ho:∃ nm qn,s.heap.get? l.a=aa {cls:=.type "generator",data:=.fields #[.int (gk:Nat) 0,nm,qn]}
 base:C.base.heap.get? l.a=none/\C.base.heap.get? l.d=none
 ne:l.d≠l.a
 hL:∃ oL,s.heap.get? l.d=aa oL
noncomputable abbrev lrun(l:Lc):Lc:= {l with d:=l.a}
theorem GAt.run(hG:GCx C G)(a:GAt C G H ρ s gi gk l)(hgs:s.gens[gk]? =aa gs):Sim C (H.set gi (.gen .run)) (ρ.set gi (lrun l)) (s.setGen gk .running)/\¬Own (ρ.set gi (lrun l)) l.d/\jM ρ (ρ.set gi (lrun l)):=by
 refine xEE a.ho λnm qn ho=>xE a.hH λgn hH=>?_
 have hlt:gi<ρ.length:=(List.getElem?_eq_some_iff.mp a.hl).1
 refine⟨a.S.swapG hG (l':=lrun l) a.hl hH rfl rfl a.hg rfl (.inl rfl) ⟨gk,nm,qn,a.hg,ho,rfl,gP hgs⟩,?_,lN a.hl rfl⟩
 rintro ⟨x,hx,hb⟩
 refine xE (iu hx) λi hi=>?_
 by_cases q:i=gi
 ·subst q
  rw[fe hlt]at hi;refine cyS hi λzq=>?_;subst zq
  refine Or.elim hb (λz=>?_) λz=>?_<;>exact a.ne z
 ·rw[jf (Ne.symm q)]at hi
  exact a.S.disj gi i l x a.hl hi (Ne.symm q) _ (.inr rfl) hb
theorem GAt.back(hG:GCx C G)(a:GAt C G H ρ s gi gk l)(hown: ¬Own (ρ.set gi (lrun l)) l.d)(N:Nx (ρ.set gi (lrun l)) (Wr (G.envL l.d)) (s.setGen gk .running) ρ1 s1)(S1:Sim C H1 ρ1 s1)(hH1:H1[gi]? =aa (.gen .run))(hbare:gs.bare=ak)(hnew:∀ nm qn,s1.heap.get? l.a=aa {cls:=.type "generator",data:=.fields #[.int (gk:Nat) 0,nm,qn]}->jM ρ1 (ρ1.set gi l)->(∃ y,s1.gens[gk]? =aa y)->fS G (ρ1.set gi l) (s1.setGen gk gs) l gn'):
  Sim C (H1.set gi (.gen gn')) (ρ1.set gi l) (s1.setGen gk gs)/\Nx ρ noW s (ρ1.set gi l) (s1.setGen gk gs)/\jM ρ1 (ρ1.set gi l):=by
 have hlt:gi<ρ.length:=(List.getElem?_eq_some_iff.mp a.hl).1
 have hl1:ρ1[gi]? =aa (lrun l):=aT N.pre (by exact rwL (fe hlt) rfl)
 have sa:jM ρ1 (ρ1.set gi l):=lN hl1 rfl
 have o1:fS G ρ1 s1 (lrun l) .run:=by have:=S1.objs gi _ _ hH1 hl1;rw[<-hG.gr];exact this
 refine cR o1 λgk' nm' qn' hg' ho' c hrun=>?_
 obtain rfl:gk'=gk:=Option.some.inj (hg'.symm.trans a.hg)
 refine xE a.hL λoL hoL=>⟨S1.swapG hG hl1 hH1 rfl rfl a.hg hbare (.inr (.inr ⟨N.own hoL hown,a.base.2⟩)) (hnew nm' qn' ho' sa ⟨_,hrun⟩),xE N.pre λt ht=>?_,sa⟩
 have hpre:ρ1.set gi l=ρ++t:=by
  rw[<-ht,List.set_append_left _ _ (by simpa using hlt),vd]
  refine xE (List.getElem?_eq_some_iff.mp a.hl) λhh e=>?_
  rw[<-e,List.set_getElem_self]
 refine⟨⟨t,hpre.symm⟩,λx hx=>?_,λb o e ho' c=>?_,N.imm,λb o e=>N.al b o e⟩
 ·rw[hpre,vk]at hx
  exact N.new x (rwR ht (rwL vk hx))
 ·refine N.kp b o e ?_ ?_
  ·rintro ⟨x,hx,hb⟩
   refine xE (iu hx) λi hi=>?_
   by_cases q:i=gi
   ·subst q
    rw[fe hlt]at hi;refine cyS hi λzq=>?_;subst zq
    exact ho' ⟨l,dm a.hl,hb.elim .inl .inl⟩
   ·rw[jf (Ne.symm q)]at hi
    exact ho' ⟨x,dm hi,hb⟩
  ·rintro (rfl |⟨x,hx⟩)
   ·exact ho' ⟨l,dm a.hl,.inr rfl⟩
   ·rw[hG.cells]at hx;exact aF hx
inductive mT(C:Cx)(gi:Nat)(ρ:ae Lc)(s:aw)(Q:aj V->MH->Prop):aj bx->aw->Prop
 |item {u v ρ' s' H'} (S:Sim C H' ρ' s') (N:Nx ρ noW s ρ' s') (r:VR ρ' s'.heap u v) (hg:∃ gn,H'[gi]? =aa (.gen gn)) (q:Q (aa v) H'):mT C gi ρ s Q (aa u) s'
 |done {ρ' s' H'} (S:Sim C H' ρ' s') (N:Nx ρ noW s ρ' s') (q:Q none H'):mT C gi ρ s Q none s'
theorem mT.ext(h:mT C gi ρ s Q none s1)(hk:∀ b o,s1.heap.get? b=aa o->h'.get? b=aa o):mT C gi ρ s Q none {s1 with heap:=h'}:=by
 cases h with
 |done S N q=>exact .done (S.extS hk) (N.trans (.ext (k:=s1.toks) hk)) q
structure Wk(C:Cx)(A:gj)(P:aj bx->aw->Prop)(Q:PySem.Fin->aw->Prop)(E:bx->aw->Prop)(kk:GenResult->Sem PySem.Fin):Prop where
 y:∀ v,kk (.yielded v)=ret v
 r:∃ k':PUnit->Sem PySem.Fin,kk (.returned .none)=(uu (.type "StopIteration") [] >>=λx=>(raiseNew x:Sem PUnit) >>=k')
 h1:∀ u s',P (aa u) s'->Q (.done (.ret u)) s'
 h2:∀ x h' s1,P none s1->(∃ o,h'.get? x=aa o/\o.cls= .type "StopIteration")->(∀ b o,s1.heap.get? b=aa o->h'.get? b=aa o)->E (.ref x) {s1 with heap:=h'}
set_option tactic.hygienic true in
theorem GAt.main(hG:GCx C G)(hr:A.handled=none)(a:GAt C G H ρ s gi gk l)(hown: ¬Own (ρ.set gi (lrun l)) l.d)(hgs:s.gens[gk]? =aa gs)(hgo:aFf C.M A (GΦ C G (G.envL l.d) (ρ.set gi (lrun l)) (s.setGen gk .running) (GFn.finK gi Q0)) (.send .none) (s.setGen gk .running) gs)(W:Wk C A (mT C gi ρ s Q0) Q E kk):ax C.M A (.resume gk (.send .none) [] kk) Q E s:=by
 have frs:∀ {ρ1:ae Lc}{s1:aw}{lo:Lo}{gs':th},jM ρ1 (ρ1.set gi l)->Fm C (G.envL l.d) ρ1 s1 lo->gS G (ρ1.set gi l) (s1.setGen gk gs') l.d lo:=λsa F=>
  let ⟨m,hn,hm⟩:=F.frm;⟨m,hn,λx hx=>(hm x hx).sameA sa⟩
 refine vE hgs hgo λe s1 hΦ=>?_
 cases hΦ with
 |yl S1 N1 hk hli ru Fu q=>
  refine⟨rfl,?_⟩
  rename_i li u l' k p p'
  have B:=a.back hG hown (gs:=.suspended k l' (G.loopC (G.envL l.d) (.ref li.a)) p (G.fs1 (G.envL l.d) p') am) (gn':=.loop _ _) N1 S1 q.1 rfl (λnm qn ho' sa ⟨y,hy⟩=>xEA (sa _ li hli) λli' e1 e2=>⟨gk,nm,qn,a.hg,ho',a.ne,frs sa Fu,li',k,l',p,p',e1,rwL e2 hk,rwL e2 (gP hy)⟩)
  show ax C.M A (kk (.yielded u)) Q E _
  rw[W.y]
  exact zzP (W.h1 u _ (.item B.1 B.2.1 (ru.sameA B.2.2) ⟨_,fe (List.getElem?_eq_some_iff.mp q.1).1⟩ q.2))
 |yr S1 N1 hk ru Fu q=>
  refine⟨rfl,?_⟩
  rename_i u l' k p
  have B:=a.back hG hown (gs:=.suspended k l' (.func G.body (G.envL l.d)) p [] am) (gn':=.last _) N1 S1 q.1 rfl (λnm qn ho' sa ⟨y,hy⟩=>⟨gk,nm,qn,a.hg,ho',a.ne,frs sa Fu,k,l',p,hk,gP hy⟩)
  show ax C.M A (kk (.yielded u)) Q E _
  rw[W.y]
  exact zzP (W.h1 u _ (.item B.1 B.2.1 (ru.sameA B.2.2) ⟨_,fe (List.getElem?_eq_some_iff.mp q.1).1⟩ q.2))
 |done S1 N1 hD q=>
  refine⟨rfl,?_⟩
  have B:=a.back hG hown (gs:=.finished) (gn':=.fin) N1 S1 q.1 rfl (λnm qn ho' sa ⟨y,hy⟩=>⟨gk,nm,qn,a.hg,ho',a.ne,hD,gP hy⟩)
  exact(xE W.r λk' hk2=>rwL hk2 (wZ hr λx h' hx hk=>W.h2 x h' _ (.done B.1 B.2.1 q.2) hx hk):ax C.M A (kk (.returned .none)) Q E (s1.setGen gk .finished))
theorem uI{a:dv}(hIs:s.heap.IsGen a gk)(hgs:s.gens[gk]? =aa gs)(h:ax C.M A.in1 (Builtin.Generator.genWake (.ref a) (.send .none)) (λfin s'=>∃ u,fin= .done (.ret u)/\Q (aa u) s') (λe s'=>∃ x,e= .ref x/\(∃ o,s'.heap.get? x=aa o/\o.cls= .type "StopIteration")/\Q none s') s):ax C.M A (mi (.ref a)) Q NoE s:=by
 unfold mi
 refine zzB (ox (fx (name:=Str.ofString "__next__") hIs.typeIs slot_gen_next
  (ii slot_gen_next hIs.typeIs entry_gen_next (ir h (λfin s' h=>?_) λe s' h=>?_) (args_gen_next _))))
 ·obtain⟨u,rfl,h⟩:=h
  exact⟨u,rfl,zzP h⟩
 ·obtain⟨x,rfl,⟨o,ho2,hc2⟩,h⟩:=h
  exact zzB (nk (T:="StopIteration") (b:=ak) ⟨o,ho2,hc2⟩ uv (zzP h))
theorem GAt.wake(hG:GCx C G)(hr:Room (r+2) A)(a:GAt C G H ρ s gi gk l)(hown: ¬Own (ρ.set gi (lrun l)) l.d)(hgs:s.gens[gk]? =aa gs)(hgo:aFf C.M A.in1 (GΦ C G (G.envL l.d) (ρ.set gi (lrun l)) (s.setGen gk .running) (GFn.finK gi Q0)) (.send .none) (s.setGen gk .running) gs):ax C.M A (mi (.ref l.a)) (mT C gi ρ s Q0) NoE s:=by
 refine xEE a.ho λnm qn ho=>?_
 have hIs:s.heap.IsGen l.a gk:=⟨_,nm,qn,ho,rfl,rfl,rfl⟩
 refine uI hIs hgs ?_
 unfold Builtin.Generator.genWake
 refine zzB (bz (wpAny_genNumber hIs (zzB (wpAny_genState hgs ?_))))
 cases gs with
 |running=>exact hgo.elim
 |finished=>exact hgo.elim
 |_=>
  exact zzB (wpAny_roomToWake (C.lim.keeps a.S.keep) hr.lt ((GAt.main (A:=A.in1) hG (show A.in1.handled=none from hr.1) a hown hgs hgo ⟨λq=>rfl,⟨_,rfl⟩,λu s' hp=>⟨u,rfl,hp⟩,λx h' s1 hp hx hk=>⟨x,rfl,hx,hp.ext hk⟩⟩):ax _ A.in1 (.resume gk (.send .none) [] _) _ _ s))
theorem Room.in1(hr:Room (r+2) A):Room (r+1) A.in1:=⟨hr.1,by have:=hr.2.1;exact(A38 this:A.depth+10*(r+1)<=700),by have:=hr.2.2;exact(A39 this:A.units+1+40*(r+1)<=8000)⟩
theorem aDa(hG:GCx C G)(VV:∀ L,GV C r G g (G.envL L))(hr:Room (r+2) A)(S:Sim C H ρ s)(hl:ρ[gi]? =aa l)(e:g.nx gi H Q):ax C.M A (mi (.ref l.a)) (mT C gi ρ s Q) NoE s:=by
 refine e.elim λgn hH e=>?_
 have hH:=aC7 hH
 have o:fS G ρ s l gn:=by have:=S.objs gi _ l hH hl;rw[<-hG.gr];exact this
 refine gV o λgk nm qn hg ho hm=>?_
 have hbase:C.base.heap.get? l.a=none/\C.base.heap.get? l.d=none:=by
  rcases S.ro gi l hl with ⟨vs,e⟩ |e
  ·rw[hH]at e;cases e
  ·exact e
 have mk:∀ {lo},l.d≠l.a->gS G ρ s l.d lo->GAt C G H ρ s gi gk l:=λhne hfr=>⟨S,hl,⟨_,hH⟩,hg,⟨nm,qn,ho⟩,hbase,hne,let ⟨m,⟨o,_,_,g,_⟩,_⟩:=hfr;⟨o,g⟩⟩
 have fm:∀ {lo},jM ρ (ρ.set gi (lrun l))->gS G ρ s l.d lo->¬Own (ρ.set gi (lrun l)) l.d->Fm C (G.envL l.d) (ρ.set gi (lrun l)) (s.setGen gk .running) lo:=λsa hfr hown=>
  Fm.ofFrm hG (let ⟨m,hn,hm⟩:=hfr;⟨m,hn,λx hx=>(hm x hx).sameA sa⟩) hown hbase.2
 cases gn with
 |fresh lo=>
  exact xAA hm λhne hfr hgs=>xAA ((mk hne hfr).run hG hgs) λS1 hown sa=>(mk hne hfr).wake hG hr hown hgs ⟨rfl,zP (VV l.d) hr.in1 .refl S1 (fm sa hfr hown) e⟩
 |loop it lo=>
  exact hZ hm λhne hfr li k l' p p' hli hk hgs=>xAA ((mk hne hfr).run hG hgs) λS1 hown sa=>xEA (sa it li hli) λli' e1 e2=>(mk hne hfr).wake hG hr hown hgs ((rwL hk (rwR e2 (aC8 (VV l.d) hr.in1 .refl S1 (fm sa hfr hown) e1 e))):Sg C.M A.in1 _ (k (.send .none)) _ _ _)
 |last lo=>
  exact qZ hm λhne hfr k l' p hk hgs=>xAA ((mk hne hfr).run hG hgs) λS1 hown sa=>(mk hne hfr).wake hG hr hown hgs ((rwL hk (aC9 .refl S1 (fm sa hfr hown) ⟨fe (List.getElem?_eq_some_iff.mp hH).1,by rw[vd];exact e⟩)):Sg C.M A.in1 _ (k (.send .none)) _ _ _)
 |run=>exact e.elim
 |fin=>
  refine xAA hm λhne q hgs=>?_
  have hIs:s.heap.IsGen l.a gk:=⟨_,nm,qn,ho,rfl,rfl,rfl⟩
  refine uI hIs hgs ?_
  unfold Builtin.Generator.genWake
  refine zzB (bz (wpAny_genNumber hIs (zzB (wpAny_genState hgs ?_))))
  have W:∀ {kk:GenResult->Sem PySem.Fin}{Q:PySem.Fin->aw->Prop}{E:bx->aw->Prop},ax C.M A.in1 (kk .finished) Q E s->ax C.M A.in1 (.resume gk (.send .none) [] kk) Q E s:=by
   intro kk Q E h Γ p hΓ
   rw[Sem.wp_resume]
   exact⟨.finished,s,by unfold Wakes;exact rwL hgs ⟨rfl,rfl⟩,h Γ p hΓ⟩
  refine((W ?_):ax _ A.in1 (.resume gk (.send .none) [] _) _ _ s)
  have e2:(uu (.type "StopIteration") [] >>=λx=>(raiseNew x:Sem PySem.Fin))=(uu (.type "StopIteration") [] >>=λx=>(raiseNew x:Sem PySem.Fin) >>=λy=>(pure y:Sem PySem.Fin)):=by simp
  refine(?_:ax C.M A.in1 (uu (.type "StopIteration") [] >>=λx=>(raiseNew x:Sem PySem.Fin)) _ _ s)
  exact rwL e2 (wZ hr.1 λx h' hx hk=>⟨x,rfl,hx,.done (S.extS hk) (.ext (k:=s.toks) hk) e⟩)
theorem g_lt(hG:GCx C G){i:Nat}(S:Sim C H ρ s)(hl:ρ[i]? =aa l)(hk:l.g=aa k):k<s.gens.size:=by
 have hlt:i<H.length:=rwR S.len ((List.getElem?_eq_some_iff.mp hl).1)
 have o:=S.objs i H[i] l (df hlt) hl
 revert o
 cases H[i] with
 |list vs=>rintro ⟨_,g,_⟩;rw[g]at hk;cases hk
 |ro vs=>rintro ⟨_,g,_⟩;rw[g]at hk;cases hk
 |dict n f=>rintro ⟨_,g,_⟩;rw[g]at hk;cases hk
 |eset=>rintro ⟨_,g,_⟩;rw[g]at hk;exact aF hk
 |inst fs=>rintro ⟨g,_⟩;rw[g]at hk;exact aF hk
 |itr p=>
  cases p with
  |none=>rintro ⟨_,g,_⟩;rw[g]at hk;cases hk
  |some p=>rintro ⟨_,g,_⟩;rw[g]at hk;exact aF hk
 |gen gn=>
  intro o
  have o':fS G ρ s l gn:=by rw[<-hG.gr];exact o
  refine gV o' λg nm qn hg ho hm=>?_
  obtain rfl:g=k:=by rw[hg]at hk;exact Option.some.inj hk
  have sz:∀ {x},s.gens[g]? =aa x->g<s.gens.size:=λ{x} e=>by
   refine Or.elim (uj g s.gens.size) (λq=>q) λq=>?_
   ·rw[Array.getElem?_eq_none q]at e;exact aF e
  cases gn with
  |fresh lo=>exact sz hm.2.2
  |loop it lo=>exact hZ hm λa a a a a a a a a z=>sz z
  |last lo=>exact qZ hm λa a a a a a z=>sz z
  |run=>exact sz hm.2
  |fin=>exact sz hm.2.2
def cGen(names:ae Str)(more:ae V):CF:=λvs H Q=>(vs++more).length=names.length/\Q (.ref H.length) (H++[.gen (.fresh (loB names (vs++more) lo0))])
theorem CV.gen(hG:GCx C G)(D:Def C G.fa G.fd G.body){dflt:ae bx}(hgen:G.fd.scope.isGenerator=ak)(hb:Binds C G.fd names dflt)(hd:∀ ρ h,VRs ρ h dflt more)(hn:∀ x∈names,G.fd.scope.names.lookup x=aa .local):CV C (r+1) (.ref G.fa) (cGen names more):=by
 refine xEA D.obj λo ho hdata=>CC.cv ho hdata ?_
 intro A s ρ H us vs Q hr S hu e
 refine xA e λhlen q=>?_
 have hu':VRs ρ s.heap (us++dflt) (vs++more):=hu.append (hd _ _)
 have hlen':(us++dflt).length=names.length:=hu'.length.trans hlen
 refine codeAny_call_generator hr.lt (S.keep _ _ ho) hdata D.co hgen D.body (D.code.keeps S.keep) (hb s us S.keep hlen' _ _ _ _ (rwL D.clo (ur D.kind (λx hx=>.inl (hn x.1 (List.of_mem_zip hx).1)) λenv he s1 I=>?_)))
 subst he
 refine xAAA (Fm.call D S hu' hlen' (λx hx=>.inl (hn x hx)) I) λS1 N1 F1 hfr=>⟨(C.lim.keeps S.keep).keeps I.toInCall.keep,xEE I.toInCall.same λh1 tk1 e1=>xEA F1.ns λm hns hm=>?_⟩
 have hLne:s.heap.objs.size≠s1.heap.objs.size:=λq=>by
  refine iQ hns λo a a g a=>?_
  have:=Heap.lt_size g
  have h2:(ij G.fd s.heap.objs.size G.fa).locals=s.heap.objs.size:=rfl
  rw[h2,q]at this
  exact Nat.lt_irrefl _ this
 have hgs:s1.gens=s.gens:=by exact rwL e1 rfl
 have keepG:∀ b o,s1.heap.get? b=aa o->(s1.heap.push {cls:=.type "generator",data:=.fields #[.int s1.gens.size 0,.str G.fd.name s1.toks,.str G.fd.qualname (s1.toks+1)]}).get? b=aa o:=λb o e=>Heap.get?_push_of_some _ e
 have kall:∀ b o,s.heap.get? b=aa o->(s1.heap.push {cls:=.type "generator",data:=.fields #[.int s1.gens.size 0,.str G.fd.name s1.toks,.str G.fd.qualname (s1.toks+1)]}).get? b=aa o:=λb o e=>keepG b o (I.toInCall.keep b o e)
 have hka:s.heap.get? s1.heap.objs.size=none:=by
  cases q:s.heap.get? s1.heap.objs.size with
  |none=>rfl
  |some o=>have:=I.toInCall.keep _ _ q;rw[bC]at this;exact aF this
 have SN:=S.new (s':= {s1 with gens:=s1.gens.push (.fresh (.func G.body (ij G.fd s.heap.objs.size G.fa))),toks:=s1.toks+1+1,heap:=s1.heap.push {cls:=.type "generator",data:=.fields #[.int s1.gens.size 0,.str G.fd.name s1.toks,.str G.fd.qualname (s1.toks+1)]}})
  (l:=⟨s1.heap.objs.size,s.heap.objs.size,aa s.gens.size⟩) (m:=.gen (.fresh (loB names (vs++more) lo0))) kall (λk x e=>by
   have hlt:k<s.gens.size:=by
    refine Or.elim (uj k s.gens.size) (λq=>q) λq=>?_
    ·rw[Array.getElem?_eq_none q]at e;exact aF e
   show(s1.gens.push _)[k]? =aa x
   exact rwL hgs (rwL Array.getElem?_push (rwL (bc (uk hlt)) e))) (by exact rwL e1 rfl) (rwL hgs (S.bare.push rfl)) hka (bC _)
  (λk e l' hl' e'=>by
   refine xE (iu hl') λi hi=>?_
   have:=g_lt hG S hi e';refine cyS e λzq=>?_;subst zq;exact Nat.lt_irrefl _ this)
  (by
   refine(?_:C.GR _ _ _ _)
   rw[hG.gr]
   exact⟨s.gens.size,.str G.fd.name s1.toks,.str G.fd.qualname (s1.toks+1),rfl,rwR hgs (Heap.get?_push_size _ rfl),hLne,⟨m,hns.keeps keepG,λx hx=>(hm x hx).mono (ou _ _) (eO keepG)⟩,by refine rwL hgs ?_;simp;rfl⟩)
 exact⟨SN.1,SN.2 _,VR.ref (l:=⟨s1.heap.objs.size,s.heap.objs.size,aa s.gens.size⟩) S.last,q⟩
theorem lC(hG:GCx C G){gi:Nat}(S:Sim C H ρ s)(hl:ρ[gi]? =aa l)(hH:H[gi]? =aa (.gen gn)):∃ k,s.heap.IsGen l.a k:=by
 have o:fS G ρ s l gn:=by have:=S.objs gi _ l hH hl;rw[<-hG.gr];exact this
 exact gV o λgk nm qn hg ho hm=>⟨gk,_,nm,qn,ho,rfl,rfl,rfl⟩
theorem aBv{g:GFn}(e:g.nx gi H Q):∃ gn,H[gi]? =aa (.gen gn):=e.elim λgn h q=>⟨gn,aC7 h⟩
inductive GnM{C:Cx}(ρ:ae Lc)(s:aw)(gi:Nat):bx->(dv->Prop)->Prop
 |mk {l k} (h1:ρ[gi]? =aa l) (h2:s.heap.IsGen l.a k):GnM ρ s gi (.ref l.a) (λq=>fh)
def hI(hG:GCx C G)(r0:Nat)(VV:∀ L,GV C r0 G g (G.envL L)):ItK C where
 σ:=Nat
 nx:=λgi H Q=>g.nx gi H λo H'=>Q (o.map λv=>(v,gi)) H'
 rel:=λρ s gi x X=>∃ l,ρ[gi]? =aa l/\x= .ref l.a/\X=λc=>fh
 mid:=λρ s gi u x X=>GnM (C:=C) ρ s gi x X
 tg:=λc=>vt
 need:=r0+2
 mono:=λ⟨l,h1,h2,h3⟩ e i hk=>⟨l,aT e h1,h2,h3⟩
 alive:=λ⟨l,h1,h2,h3⟩ b hb=>by subst h3;exact hb.elim
 next:=by
  rintro A s ρ H gi x X Q r hnd hr S ⟨l,hl,rfl,rfl⟩ hX e
  have hr':Room (r0+2) A:=by
   refine xAA hr λh1 h2 h3=>?_
   exact⟨h1,A40 hnd h2,A41 hnd h3⟩
  have nxi:∀ {ρ' s'},Nx ρ noW s ρ' s'->NxI ρ (λc=>fh) s ρ' s':=λN=>⟨N.pre,N.new,N.kp,N.imm,λb o e c=>N.al b o e⟩
  refine wmN (aDa hG VV hr' S hl e) λo s' p=>?_
  cases p with
  |item S' N' r' hg q=>
   refine xE hg λgn hH=>?_
   refine xE (lC hG S' (aT N'.pre hl) hH) λk hk=>?_
   exact .item S' (nxi N') r' (.mk (aT N'.pre hl) hk) q
  |done S' N' q=>exact .done S' (nxi N') q
 lgo:=by
  rintro A s ρ H it x X u target r hr S M _ hX
  cases M with
  |mk h1 h2=>
   refine gV h2 λo nm qn h2 h3 c=>?_
   exact jP (T:="generator") h2 h3 (by decide) ⟨S,.refl,_,h1,rfl,rfl⟩
theorem iP.gen(hG:GCx C G)(VV:∀ L,GV C r0 G g (G.envL L)):iP (hI hG r0 VV):=by
 rintro A s ρ H it x X Q S ⟨y,hy⟩ ⟨l,h1,rfl,rfl⟩ h
 exact xE (aBv hy) λgn hH=>xE (lC hG S h1 hH) λk hk=>vo hk h
def iG(f:EF):Lo->MH->(Nat->MH->Prop)->Prop:=λlo H Q=>f lo H λv H1=>Lf v.rf λi=>(∃ gn,H1[i]? =aa (.gen gn))/\Q i H1
theorem IV.gen(hG:GCx C G)(VV:∀ L,GV C r0 G g (G.envL L))(h:EV C r env e f):IV (hI hG r0 VV) r env e (iG f):=λa a a a a a hr S F q=>h.run hr S F q λS1 N1 r1 q=>q.elim λi hi q=>by
  refine dY (r1.toRef hi) λl a z105 g1=>rwL z105 (xA q λz106 q=>?_);obtain⟨gn,hH⟩:=z106
  exact xE (lC hG S1 g1 hH) λk hk=>vo hk ⟨S1,N1,⟨l,g1,rfl,rfl⟩,λb hb=>hb.elim,q⟩
def f9(K:ItK C)(ai:Nat):Nat->K.σ->MH->(MH->Prop)->Prop
 |0,_,_,_=>fh
 |n+1,it,H,Q=>K.nx it H λres H1=>match res with
  |none=>Q H1
  |some p=>Lf (H1[ai]?.bind MO.own) λvs=>vs.length<1000000/\f9 K ai n p.2 (H1.set ai (.list (vs++[p.1]))) Q
inductive XEnd(C:Cx)(ρ0:ae Lc)(s0:aw)(ai:Nat)(l:Lc)(Q:MH->Prop)(s':aw):Prop
 |mk {ρ' H'} (S:Sim C H' ρ' s') (N:Nx ρ0 noW s0 ρ' s') (hl:ρ'[ai]? =aa l) (q:Q H'):XEnd C ρ0 s0 ai l Q s'
theorem uR{K:ItK C}(hneed:K.need<=r)(hlg:∀ {ρ s it x X u},K.mid ρ s it u x X->K.rel ρ s it x X):∀ (n:Nat){A:gj}{s0 s:aw}{ρ0 ρ:ae Lc}{H:MH}{it:K.σ}{x:bx}{X:dv->Prop}{Q:MH->Prop},Room r A.in1->ρ[ai]? =aa l->Nx ρ0 noW s0 ρ s->Sim C H ρ s-> K.rel ρ s it x X->(∀ b,X b->s0.heap.get? b=none/\¬Own ρ b/\C.base.heap.get? b=none)->f9 K ai n it H Q-> ma C.M A (.builtin "list.extend.loop" ⟨[.ref l.a,x,res],[]⟩) (λrr s'=>rr= .ok (.ret res)/\XEnd C ρ0 s0 ai l Q s') s
 |0,_,_,_,_,_,_,_,_,_,_,_,_,_,_,_,_,e=>e.elim
 |n+1,A,s0,s,ρ0,ρ,H,it,x,X,Q,hr,hl,N,S,R,hX,e=>by
  refine codeAny_builtin PySem.F.entry_extend_loop (rwL (Around.under_plainId PySem.F.plain_extend_loop _) ?_)
  show ax _ A.in1 (mi x >>=_) _ _ s
  refine zzB (wmN (K.next hneed hr S R (λb q=>⟨(hX b q).2.1,(hX b q).2.2⟩) e) λo s1 p=>?_)
  cases p with
  |done S1 I1 q=>exact zzP ⟨rfl,S1,N.stepI I1 (λb q=>(hX b q).1),aT I1.pre hl,q⟩
  |item S1 I1 ru R1 q=>
   refine q.elim λvs hv q=>xEE (iD S1 (aT I1.pre hl) (j6 hv)) λxs nn O=>?_
   have hsz:=O.r.sz
   have hlen:=q.1
   have hz:xs.size<=sizeLine:=rwL eu (A33 hsz hlen)
   have hX1:∀ b,X b->¬Own _ b:=λb q=>let ⟨o',e'⟩:=K.alive R b q;I1.owns e' (hX b q).2.1
   refine(?_:ax _ A.in1 (xl l.a (·.push _) >>=_) _ _ s1)
   refine zzB (qf O.x rfl (zzP ?_) hz (by rw[Array.size_push];exact qu hz))
   have st:=O.put (k:=s1.toks) S1 (λxs=>xs.push _) (by simpa using O.r.append (.cons ru .nil))
   have N2:Nx _ noW s1 _ _:=st.2 noW
   exact⟨xw PySem.F.plain_extend_loop _,uR hneed hlg n hr (aT I1.pre hl) ((N.stepI I1 (λb q=>(hX b q).1)).trans N2) st.1 (K.mono (hlg R1) N2.pre N2.imm (λb o q e'=>N2.kp b o e' (hX1 b q) (λz=>z))) (λb q=>⟨(hX b q).1,hX1 b q,(hX b q).2.2⟩) q.2⟩
theorem nil_of(r:VRs ρ h xs.toList []):xs= #[]:=Array.eq_empty_of_size_eq_zero r.sz
theorem oO(S:Sim C (H++[.list vs]) ρ s)(hla:ρ[H.length]? =aa la):∃ xs n,jN (H++[.list vs]) ρ s H.length la vs xs n:=iD S hla (by simp)
theorem oM(S:Sim C (H++[.list vs]) ρ s)(O:jN (H++[.list vs]) ρ s H.length la vs xs n)(f:om bx->om bx)(hv:VRs ρ s.heap (f xs).toList vs'):Sim C (H++[.list vs']) ρ {s with heap:=s.heap.update la.a (Obj.mapSeq f)}/\Nx ρ noW s ρ {s with heap:=s.heap.update la.a (Obj.mapSeq f)}:=by
 have st:=O.put (k:=s.toks) S f hv
 have e3:(H++[MO.list vs]).set H.length (MO.list vs')=H++[MO.list vs']:=by simp
 rw[e3]at st
 exact⟨st.1,st.2 _⟩
theorem qI{K:ItK C}(hneed:K.need<=r)(hlg:∀ {ρ s it x X u},K.mid ρ s it u x X->K.rel ρ s it x X)(hT1:(Value.type T==Value.type "list")=am)(hT2:(Value.type T==Value.type "tuple")=am)(hno1:jn (.type T) "__len__" =pure none)(hno2:jn (.type T) "__length_hint__" =pure none){it:K.σ}{a:dv}(hr:Room (r+1) A)(N0:Nx ρ0 noW s0 ρ s)(S:Sim C H ρ s)(R:K.rel ρ s it (.ref a) X)(hX:∀ b,X b->s0.heap.get? b=none/\¬Own ρ b/\C.base.heap.get? b=none)(hty:s.TypeIs (.ref a) T)(hit:∀ {A':gj}{E' Q':bx->aw->Prop} (s':aw),s'.heap.get? a=s.heap.get? a->Q' (.ref a) s'->ax C.M A' (wu (.ref a)) Q' E' s')(e:f9 K H.length n it (H++[.list []]) Q):ax C.M A (call (.type "list") [.ref a]) (b5 C ρ0 s0 λv H'=>v= .ref H.length/\Q H') NoE s:=by
 refine callType_codes (Q₁:=λobj s₁=>obj= .ref s.heap.objs.size/\s₁= {s with heap:=s.heap.push {cls:=.type "list",data:=.seq #[]}}) PySem.F.called_list (PySem.F.typeCall_list_1 _) PySem.F.entry_list_init
  (code_list_new _ ⟨rfl,rfl⟩) λobj s₁ h₁=>?_
 refine xA h₁ λz107 z108=>?_;clear h₁;subst z107;subst z108
 refine xEA hty λoa hoa hca=>?_
 have hS:(s.heap.push {cls:=.type "list",data:=.seq #[]}).get? s.heap.objs.size=aa {cls:=.type "list",data:=.seq #[]}:=Heap.get?_push_size _ rfl
 refine⟨⟨_,hS,rfl⟩,PySem.F.args_list_init_2 _ _,?_⟩
 have S1:=S.alloc {cls:=.type "list",data:=.seq #[]} (.list []) ⟨rfl,rfl,#[],0,Heap.get?_push_size _ rfl,.nil⟩
 have N1:Nx ρ noW s _ _:=.alloc {cls:=.type "list",data:=.seq #[]}
 have hla:=S.last (l:=⟨s.heap.objs.size,s.heap.objs.size,none⟩)
 have hne:s.heap.objs.size≠a:=λq=>by have:=Heap.lt_size hoa;rw[q]at this;exact Nat.lt_irrefl _ this
 refine xEE (oO S1 hla) λxs1 n1 O1=>?_
 have st2:=oM S1 O1 (λc=> #[]) (vs':=[]) .nil
 refine((zzB ?_):ax _ A.in1.in1 (do let old<-Builtin.List.listItems (.ref s.heap.objs.size);Builtin.List.listUpdate (.ref s.heap.objs.size) (λc=> #[]);letGo old.toList.reverse;Builtin.List.listExtendWith (.ref s.heap.objs.size) (.ref a) .none) _ _ _)
 unfold Builtin.List.listItems
 refine zzB (jb hS rfl (zzP (?_:ax _ A.in1.in1 (xl s.heap.objs.size (λc=> #[]) >>=λc=>letGo (#[]:om bx).toList.reverse >>=λc=>Builtin.List.listExtendWith (.ref s.heap.objs.size) (.ref a) .none) _ _ _)))
 refine zzB (qf hS rfl (zzB (zb ?_)))
 have g2:((s.heap.push {cls:=.type "list",data:=.seq #[]}).update s.heap.objs.size (Obj.mapSeq λc=> #[])).get? a=aa oa:=((Heap.SameBut.update ..).2 a (Ne.symm hne)).trans (Heap.get?_push_of_some _ hoa)
 unfold Builtin.List.listExtendWith
 refine zzB (yn ⟨oa,g2,hca⟩ ?_)
 have h1:Builtin.List.listSameRef (.ref s.heap.objs.size) (.ref a)=am:=by simp only[Builtin.List.listSameRef];simpa using hne
 simp only[h1,hT1,hT2,Bool.or_false,gu,jh]
 refine zzB (hit _ (g2.trans hoa.symm) (zzB (bz ?_)))
 unfold Builtin.List.listLengthHint
 refine zzB (wi ⟨oa,g2,hca⟩ hno1 (?_:ax _ A.in1.in1 (vp (Value.ref a) (Str.ofString "__length_hint__") >>=_) _ _ _))
 refine zzB (wi ⟨oa,g2,hca⟩ hno2 (zzP ?_))
 show ax _ A.in1.in1 (rule "list.extend.makes-room" >>=λc=>Builtin.List.listTouch (.ref s.heap.objs.size) >>=λc=>
  again (.builtin "list.extend.loop" ⟨[.ref s.heap.objs.size,.ref a,.none],[]⟩)) _ _ _
 refine zzB (sy (zzB (?_:ax _ A.in1.in1 (xl s.heap.objs.size (·.push .none) >>=λc=>xl s.heap.objs.size (·.pop)) _ _ _)))
 refine xEE (oO st2.1 hla) λxs2 n2 O2=>?_
 have z2:=nil_of O2.r
 subst z2
 have st3:=oM st2.1 O2 (λxs=>xs.push .none) (vs':=[.none]) (.cons .none .nil)
 refine zzB (qf O2.x rfl (xEE (oO st3.1 hla) λxs3 n3 O3=>?_) (by rw[eu];decide) (by refine rwL eu ?_;decide))
 have sz3:=O3.r.sz
 have st4:=oM st3.1 O3 (λxs=>xs.pop) (vs':=[]) (by
  have:xs3.pop.toList= []:=dq (by refine rwL Array.length_toList (rwL Array.size_pop (rwL sz3 ?_));rfl)
  exact rwL this .nil)
 refine qf O3.x rfl ?_ (by refine rwL sz3 (rwL eu ?_);decide) (by refine rwL Array.size_pop (rwL sz3 (rwL eu ?_));decide)
 have N14:=N1.trans (st2.2.trans (st3.2.trans st4.2))
 have hr1:Room r A.in1.in1:=xAA hr λh1 h2 h3=>⟨h1,(A42 h2:A.depth+10*r<=700),(A43 h3:A.units+1+1+40*r<=8000)⟩
 refine zzP ⟨xw PySem.F.plain_extend_loop _,?_⟩
 refine ny (uR (l:=⟨s.heap.objs.size,s.heap.objs.size,none⟩) (ρ0:=ρ0) (s0:=s0) hneed hlg n hr1 hla (N0.trans N14) st4.1 (K.mono R N14.pre N14.imm (λb o q e'=>N14.kp b o e' (hX b q).2.1 (λz=>z)))
  (λb q=>⟨(hX b q).1,let ⟨o',e'⟩:=K.alive R b q;N14.own e' (hX b q).2.1,(hX b q).2.2⟩) e) λrr s5 p=>?_
 obtain⟨rfl,S5,N5,hl5,q⟩:=p
 exact⟨rfl,S5,N5,.ref hl5,rfl,q⟩
theorem aCf(hG:GCx C G)(VV:∀ L,GV C r0 G g (G.envL L))(hnd:r0+2<=r)(hr:Room (r+1) A)(S:Sim C H ρ s)(hl:ρ[gi]? =aa l)(hH:H[gi]? =aa (.gen gn))(e:f9 (hI hG r0 VV) H.length n gi (H++[.list []]) Q):ax C.M A (call (.type "list") [.ref l.a]) (b5 C ρ s λv H'=>v= .ref H.length/\Q H') NoE s:=xE (lC hG S hl hH) λk hk=>qI (K:=hI hG r0 VV) (T:="generator") hnd (λM=>by cases M with |mk h1 h2=>exact⟨_,h1,rfl,rfl⟩) (by decide) (by decide) PySem.F.gen_no_len PySem.F.gen_no_hint hr .refl S ⟨l,hl,rfl,rfl⟩ (λb hb=>hb.elim) hk.typeIs (λs' h q=>(iQ hk λo nm qn h2 h3=>vo (g:=k) ⟨o,nm,qn,h.trans h2,h3⟩ q)) e
def isG(H:MH)(vs:ae V):aj Nat:=((one vs).bind V.rf).bind λi=>(H[i]?.bind MO.gn).map λq=>i
def dD(K:ItK C)(σ:Nat->K.σ):CF:=λvs H Q=>match isG H vs with
 |some i=>∃ n,f9 K H.length n (σ i) (H++[.list []]) λH'=>Q (.ref H.length) H'
 |none=>cList vs H Q
set_option tactic.hygienic true in
theorem CV.listG(hG:GCx C G)(VV:∀ L,GV C r0 G g (G.envL L))(hnd:r0+2<=r):CV C (r+1) (.type "list") (dD (hI hG r0 VV) (λi=>i)):=by
 refine⟨eY,?_⟩
 intro A s ρ H us vs Q hr S rs e
 unfold dD at e
 split at e
 ·rename_i i hi
  refine xE e λn e=>xEA (aq.mp hi) λj hj hi=>xEA (dy.mp hi) λgn hgn z109=>?_;subst z109
  refine xEA (aq.mp hj) λv hv hj=>xEA (j7 rs hv) λu z110 ru=>rwL z110 (dY (ru.toRef hj) λl z111 z112 gl=>rwR z111 (rwL z112 (wmN (aCf hG VV hnd hr S gl (aC7 hgn) e) λx s' p=>?_)))
  obtain⟨S',N',r',hv',q⟩:=p
  subst hv'
  exact⟨S',N',r',q⟩
 ·exact CV.list.call hr S rs e
structure KCx(C:Cx)(K:vi):Prop where
 mem:K.In C.base.heap
 makes:makesIn K d3=ak
 init:zk K (.ref d3) "__init__" =aa (aa (.ref 160))
 initT:typeIn K (.ref 160)=aa (.type "function")
 callS:specialIn K (.ref d3) "__call__" =aa (aa (.builtin "type.__call__"))
 callM:specialIn K (.ref aG) "__call__" =aa (aa (.builtin "type.__call__"))
 typM:instIn K (.ref aG) (.type "type")=aa ak
 clsM:∃ oc od cd sl,K.lookup aG=aa ⟨oc,od,.cls cd,sl⟩/\cd.mro= [.ref aG,.type "tuple",.type "object"]/\cd.hasDel=am/\cd.hasDict=am/\cd.slotNames= []/\(sl.toList[4]?).join=aa .none/\cd.abstract=am/\cd.collection=none
 clsS:∃ oc od cd sl,K.lookup d3=aa ⟨oc,od,.cls cd,sl⟩
 readsM:readsIn K aG (.type "type")=ak
 newM:findCls K (.ref aG) (.type "type") "__new__" =aa (.get (.builtin "staticmethod.__get__") (.ref 136) .none (.ref aG))
 makeM:findCls K (.ref aG) (.type "type") "_make" =aa (.get (.builtin "classmethod.__get__") (.ref 91) .none (.ref aG))
 smM:recIn K 136 "staticmethod" =aa [.ref 82]
 cmM:∃ b,recIn K 91 "classmethod" =aa [.ref 89,b]
 initM:zk K (.ref aG) "__init__" =aa (aa (.builtin "object.__init__"))
 newT:typeIn K (.ref 82)=aa (.type "function")
theorem uB{K:vi}(hK:K.In C.base.heap)(hc:∃ oc od cd sl,K.lookup c=aa ⟨oc,od,.cls cd,sl⟩)(hcall:specialIn K (.ref c) "__call__" =aa (aa (.builtin "type.__call__"))):∀ h:pa,(∀ b o,C.base.heap.get? b=aa o->h.get? b=aa o)->∃ k,(k=Keeper.frame\/k=Keeper.machine\/k=Keeper.boundFrame)/\mx C.M h (keeperOf (.ref c)) k:=by
 intro h hk
 refine xEEEE hc λoc od cd sl e=>?_
 have X:=hK.keeps hk
 exact⟨.machine,.inr (.inl rfl),(Looks.ld (part:=none) (X _ _ e)).andThen ((looks_specialIn X hcall).andThen (Looks.of_pure (by simp)))⟩
theorem Room.under_call(hr:Room (r+1) A):Room r (A.under (.builtin "type.__call__" ⟨.ref c::rest,[]⟩)):=by
 refine xAA hr λh1 h2 h3=>?_
 have w1:(Code.builtin "type.__call__" ⟨.ref c::rest,[]⟩).weight=1:=by first |rfl |kernel_rfl
 have w2:(Code.builtin "type.__call__" ⟨.ref c::rest,[]⟩).cUnits=1:=by first |rfl |kernel_rfl
 refine⟨h1,(rwL w1 (A30 h2):A.depth+(Code.builtin "type.__call__" ⟨.ref c::rest,[]⟩).weight+10*r<=700),?_⟩
 ·exact(rwL w2 (A44 h3):A.units+(Code.builtin "type.__call__" ⟨.ref c::rest,[]⟩).cUnits+40*r<=8000)
def cNew(g:CF):CF:=λvs H Q=>g (.ref H.length::vs) (H++[.inst λq=>none]) λv H'=>v= .none/\Q (.ref H.length) H'
theorem s6.run(h:ma C.M A c (s6 C ρ s Q) s0)(k:∀ {x s' ρ' v H'},Sim C H' ρ' s'->Nx ρ noW s ρ' s'->VR ρ' s'.heap x v->Q v H'->R (.ok (.ret x)) s'):ma C.M A c R s0:=ny h λrr s' hh=>by
  cases rr with
  |error x=>exact hh.elim
  |ok f=>
   cases f with
   |ret x=>exact let ⟨S,N,r,q⟩:=hh;k S N r q
   |_=>exact hh.elim
theorem CV.sm{K:vi}(hK:KCx C K)(hi:CC C r (.ref 160) g):CV C (r+1) (.ref d3) (cNew g):=by
 refine⟨uB hK.mem hK.clsS hK.callS,?_⟩
 intro A s ρ H us vs Q hr S rs e
 have X:=hK.mem.keeps S.keep
 obtain⟨h,gg,d,t,os⟩:=s
 refine jy (make_core (makes_of X hK.makes) (mo X hK.init) (λself=>bind_fn X self hK.initT) (.inl rfl) ?_)
 have keep:∀ b o,h.get? b=aa o->((h.push yv).push (instObj d3 h.objs.size)).get? b=aa o:=λb o e=>Heap.get?_push_of_some _ (Heap.get?_push_of_some _ e)
 have hget:((h.push yv).push (instObj d3 h.objs.size)).get? (h.objs.size+1)=aa (instObj d3 h.objs.size):=by heap_get
 have hgd:((h.push yv).push (instObj d3 h.objs.size)).get? h.objs.size=aa yv:=Heap.get?_push_of_some _ (Heap.get?_push_at rfl rfl)
 have G:=S.grow (l:=⟨h.objs.size+1,h.objs.size,none⟩) (m:=.inst λa=>none) (k:=t) keep (Heap.get?_none_of_le (ym _)) (bC _) rfl ⟨rfl,uk (Nat.lt_succ_self _),⟨_,hget,rfl,rfl,rfl⟩,λa=>none,
  Heap.Ns1.of_empty ⟨_,#[],_,hgd,rfl,λe he=>bw he (by simp),λa=>rfl⟩,⟨_,hgd,rfl,rfl⟩,λx hx=>bw rfl hx,λa=>trivial⟩
 have hl:=S.last (l:=⟨h.objs.size+1,h.objs.size,none⟩)
 exact s6.run (hi (A:=A.under (.builtin "type.__call__" ⟨.ref d3::us,[]⟩)) hr.under_call G.1 (.cons (.ref hl) (rs.nx (G.2 noW))) e) λS2 N2 r2 q=>by
  refine xA q λq1 q=>?_
  have:=r2.noT (by refine rwL q1 ?_;rfl)
  exact⟨this,S2,(G.2 _).trans N2,.ref (aT N2.pre hl),q⟩
theorem aBk(a b c d:bx):sx "object.__init__" ⟨[a,b,c,d],[]⟩:=by unfold sx;kernel_rfl
noncomputable abbrev rJ(i j k:bx)(n:Nat)(dd:aj dv):Obj:= {cls:=.ref aG,dict:=dd,data:=.seq #[i,j,k] n}
def NewM(C:Cx)(r:Nat):Prop:=∀ {A:gj}{s:aw}{ρ:ae Lc}{H:MH}{a b c:bx}{i j k:Int},Room r A->Sim C H ρ s->VR ρ s.heap a (.int i)->VR ρ s.heap b (.int j)->VR ρ s.heap c (.int k)->
 ma C.M A (.call (.ref 82) ⟨[.ref aG,a,b,c],[]⟩) (s6 C ρ s λv H'=>v= .mat i j k/\H'=H) s
def matF(H:MH)(is:ae Int):aj (V×MH):=match is with | [i,j,k]=>aa (.mat i j k,H) |_=>none
def wL:CF:=lf λvs H=>(Tis vs).bind (matF H)
theorem VR.toMat(r:VR ρ h u v)(e:v= .mat i j k):∃ a n t1 t2 t3 dd,u= .ref a/\h.get? a=aa (rJ (.int i t1) (.int j t2) (.int k t3) n dd):=by
 subst e
 exact kS r.inv λa n t u v dd h1 h2=>⟨a,n,t,u,v,dd,h1,h2⟩
theorem rI{K:vi}(hK:KCx C K)(X:K.In h):mx C.M h (mroOf (.ref aG)) [.ref aG,.type "tuple",.type "object"]:=m7 hK.clsM λoc od cd sl eC hmro q=>rwR hmro (((Looks.ld (part:=none) (X _ _ eC)).andThen .now).andThen .now)
theorem t6{K:vi}(hK:KCx C K)(X:K.In h):mx C.M h (Bind.madeBy (.ref aG)) none:=by
 refine hY hK.clsM λoc od cd sl eC hmro hdel hdict hsn hsl habs hcol=>?_
 have hC:=X _ _ eC
 have hm:=rI hK X
 intro A Q E s k q
 unfold Bind.madeBy
 refine zzB (hm A _ E s k ?_)
 rw[oe]
 refine zzB (zzB (zzB (zzB (wx (k _ _ hC) (zzP ?_)))))
 dsimp only
 exact rwR Array.getElem?_toList (rwL hsl (zzP (zzP (zzP q))))
theorem rT{K:vi}(hK:KCx C K)(X:K.In h)(hT:T= .ref aG\/T= .type "tuple" \/T= .type "object"):mx C.M h (po (.ref aG) T) ak:=m7 hK.clsM λoc od cd sl eC hmro q=>looks_mroIn X (by unfold mroIn clsIn;refine rwL eC ?_;rcases hT with rfl |rfl |rfl<;>simp [hmro])
set_option maxHeartbeats 1000000 in
theorem CV.mat{K:vi}(hK:KCx C K)(hn:NewM C r):CV C (r+1) (.ref aG) wL:=by
 refine CV.of (uB hK.mem (hK.clsM.elim λoc h=>h.elim λod h=>h.elim λcd h=>h.elim λsl h=>⟨oc,od,cd,sl,h.1⟩) hK.callM) λ{A s ρ H us vs v H'} hr S rs e=>?_
 refine xEA (aq.mp e) λis hi e=>?_
 refine xEA (rs.ints hi) λts hl1 hl2=>?_
 refine vC (aCo (F:=matF H) e rfl (λc=>rfl) (λc c=>rfl) λc c c c c=>rfl) λi j k z=>?_;subst z
 ·cases e
  refine vC (ts3 hl1 hl2) λta tb tc z113=>?_;subst z113
  clear rs hi hl1 hl2
  have X:=hK.mem.keeps S.keep
  refine hY hK.clsM λoc od cd sl eC hmro hdel hdict hsn hsl habs hcol=>?_
  have hC:=X _ _ eC
  have call:=looks_specialIn (M:=C.M) X hK.callM
  have typ:=looks_instIn (M:=C.M) X hK.typM
  refine jy ?_
  obtain⟨h,g,d,t,os⟩:=s
  refine oq ?_
  show ax _ _ (callAny (.ref aG) _) _ _ _
  refine nd_load hC ?_
  show ax _ _ (callAny.viaDunder (.ref aG) _) _ _ _
  unfold callAny.viaDunder
  refine zzB (call.at ?_)
  dsimp only
  rw[tc_bind]
  refine zzB (zzP (zzB (zzP ?_)))
  refine zzP (a:=PySem.Fin.again (.call (.builtin "type.__call__") ⟨.ref aG::[.int i ta,.int j tb,.int k tc],[]⟩)) (And.intro rfl ?_)
  refine codeAny_call_builtin_at (Code.quiet_builtin _ (by decide+kernel)) entry_typeCall (vw tc_kind tc_split typ (tc_args _ _ _) ?_)
  unfold Builtin.«type.__call__»
  have made:=t6 hK X
  have hm:=rI hK X
  have isT:=rT hK X (.inl rfl)
  have lkI:=mo (M:=C.M) X hK.initM
  have att:∀ {A':gj}{E':bx->aw->Prop}{Q':bx->aw->Prop}{b:fq},Q' (.ref 82) ⟨h,g,d,t+1,os⟩->ax C.M A' (vc (.ref aG) "__new__" b) Q' E' ⟨h,g,d,t,os⟩:=λhq=>cls_bind X hK.readsM hK.newM (jy (sm_get (s:=⟨h,g,d,t+1,os⟩) X hK.smM (handed_on (by decide+kernel:handedIn (.ref 82)=ak) hq)))
  repeat (first |with_reducible refine att ?_ |simp only[gu,jh] |with_reducible refine jy ?_ |lk)
  refine s6.run (hn (s:=⟨h,g,d,t+1,os⟩) hr.under_call (S.toks _) (.int i ta) (.int j tb) (.int k tc)) λ{x s1 ρ1 v1 H1} S1 N1 r1 q=>?_
  refine xA q λq1 z114=>?_;clear q;subst z114
  refine kS (r1.toMat q1) λx n1 t1 u1 w1 dd1 z115 hx=>?_;subst z115
  rw[q1]at r1
  have X1:=hK.mem.keeps S1.keep
  clear att isT made typ call hm lkI hC X hn
  have tx:mx C.M s1.heap (tw (.ref x)) (.ref aG):=(Looks.ld hx).andThen .now
  have isT1:=rT hK X1 (.inl rfl)
  have lkI:=mo (M:=C.M) X1 hK.initM
  have made1:=t6 hK X1
  have isO:mx C.M s1.heap (td (.ref x) (.type "object")) ak:=tx.andThen (rT hK X1 (.inr (.inr rfl)))
  have hC1:=X1 _ _ eC
  have hm1:=rI hK X1
  have fin:EPo C ρ ⟨h,g,d,t,os⟩ H1 (.mat i j k) (.ref x) s1:=⟨ρ1,S1,(Nx.toks (t+1)).trans N1,r1⟩
  clear S1 N1 S r1 q1 X1
  obtain⟨h1,g1,d1,tt1,os1⟩:=s1
  dsimp only at hx tx isT1 lkI isO hm1 made1 hC1
  unfold td ud vp
  have bi:=Looks.of_pure (M:=C.M) (h:=h1) (oi_bind (.ref x))
  repeat (first |with_reducible refine jy ?_ |rw[Bool.not_true,gu,jh] |lk)
  refine kh oi_plain entry_oi (vw oi_kind oi_split isO (aBk _ _ _ _) (?_:ax _ _ (Builtin.«object.__init__» ⟨[.ref x,.int i ta,.int j tb,.int k tc],[]⟩) _ _ _))
  unfold Builtin.«object.__init__»
  repeat (first |rw[List.isEmpty_cons,Bool.not_false,Bool.not_true,Bool.true_or,ve,gu,jh,xk] |lk)
  exact fin
theorem aFn:qk "tuple.__new__" =aa .builtinFn:=by decide+kernel
theorem aAl:splitId "tuple.__new__" =aa ("tuple","__new__"):=by decide+kernel
theorem aAm:ze "tuple.__new__" =ak:=by decide+kernel
theorem aFo:Builtin.Slots.bestBase [.type "tuple"]=pure (.type "tuple"):=by first |rfl |kernel_rfl
structure sZ(M:zs)(h:pa):Prop where
 obj:∃ oc od cd sl,h.get? aG=aa ⟨oc,od,.cls cd,sl⟩/\cd.hasDel=am
 isT:mx M h (isType (.ref aG)) ak
 sub:mx M h (po (.ref aG) (.type "tuple")) ak
 base:mx M h (Bind.staticBase (.ref aG)) (.type "tuple")
 init:mx M h (jn (.ref aG) "__init__") (aa (.builtin "object.__init__"))
theorem mfacts{K:vi}(hK:KCx C K)(hbs:∃ oc od cd sl,K.lookup aG=aa ⟨oc,od,.cls cd,sl⟩/\cd.bases= [.type "tuple"])(X:K.In h):sZ M h:=by
 refine hY hK.clsM λoc od cd sl eC hmro hdel hdict hsn hsl habs hcol=>nR hbs λoc' od' cd' sl' eC' hbase=>?_
 rw[eC]at eC'
 cases eC'
 have hC:=X _ _ eC
 have hm:mx M h (mroOf (.ref aG)) cd.mro:=((Looks.ld (part:=none) hC).andThen .now).andThen .now
 rw[hmro]at hm
 have made:mx M h (Bind.madeBy (.ref aG)) none:=by
  intro A Q E s k q
  unfold Bind.madeBy
  refine zzB (hm A _ E s k ?_)
  rw[oe]
  refine zzB (zzB (zzB (zzB (wx (k _ _ hC) (zzP ?_)))))
  dsimp only
  exact rwR Array.getElem?_toList (rwL hsl (zzP (zzP (zzP q))))
 refine⟨⟨oc,od,cd,sl,hC,hdel⟩,(Looks.ld (part:=aa headPart) hC).andThen .now,looks_mroIn X (by unfold mroIn clsIn;refine rwL eC ?_;simp [hmro]),?_,mo X hK.initM⟩
 ·intro A Q E s k q
  unfold Bind.staticBase
  refine zzB (hm A _ E s k ?_)
  rw[oe]
  have mt:=PySem.F.called_tuple.made
  dsimp only
  refine zzB (zzB (zzB (made A _ E s k (rwL (bc (by decide)) ?_))))
  have hcd:mx M h (classData aG) cd:=(Looks.ld (part:=none) hC).andThen .now
  refine zzB (hcd A _ E s k ?_)
  show ax _ _ (Builtin.Slots.bestBase cd.bases >>=_) _ _ _
  refine rwL hbase (rwL aFo (zzB (zzP (zzP ?_))))
  dsimp only
  rw[oe,mt]
  dsimp only
  exact zzB (zzB (zzP (rwL (bo (by decide)) (zzP (zzP (zzP q))))))
set_option maxHeartbeats 1000000 in
theorem yX(F:∀ h,(∀ b o,s.heap.get? b=aa o->h.get? b=aa o)->sZ (iz prog w) h)(hx:s.heap.get? tp=aa {cls:=.type "tuple",data:=.seq xs n})(hsz:xs.size<100)(h:∀ h' x dd,(∀ b o,s.heap.get? b=aa o->h'.get? b=aa o)->h'.get? x=aa {cls:=.ref aG,dict:=dd,data:=.seq xs}->s.heap.get? x=none->R (.ok (.ret (.ref x))) {s with heap:=h'}):
  ma (iz prog w) A (.call (.builtin "tuple.__new__") ⟨[.ref aG,.ref tp],[]⟩) R s:=by
 obtain⟨⟨oc,od,cd,sl,hC,hdel⟩,isT,sub,base,init⟩:=F s.heap (λa a e=>e)
 have mt:=PySem.F.called_tuple.made
 refine kh aAm PySem.F.entry_tuple_new ?_
 obtain⟨hh,g,d,t,os⟩:=s
 dsimp only at*
 delta checkBuiltinCall;dsimp only;rw[aFn,aAl];dsimp only
 have col:∀ {A':gj}{E':bx->aw->Prop}{Q':ae bx->aw->Prop},(∀ h',(∀ b o,hh.get? b=aa o->h'.get? b=aa o)->Q' xs.toList ⟨h',g,d,t,os⟩)->ax (iz prog w) A' (collect (.ref tp)) Q' E' ⟨hh,g,d,t,os⟩:=by
  intro A' E' Q' hq
  exact wpAny_collect_seq tp (.inr rfl) hx rfl rfl hq (by rw[eu];exact A2 hsz)
 repeat (first |rw[Bool.not_true,gu,jh,pt,xk] | (refine rwL mt ?_;refine zzP ?_) |with_reducible refine col ?_ |lk)
 intro h1 hk1
 refine zzB (zzP (zzB (wpAny_alloc (zzB ?_))))
 unfold newObj
 dsimp only
 refine rwL (bc (by simp [eu];exact A2 hsz)) ?_
 unfold newObjAsIs classHasDel
 have hC1:=hk1 _ _ hC
 refine zzB (wpAny_alloc (zzB (zzB (wpAny_load (Heap.get?_push_of_some _ (Heap.get?_push_of_some _ hC1)) (zzP ?_)))))
 refine rwL hdel (zzP (zzP (h _ _ _ (λb o e=>Heap.get?_push_of_some _ (Heap.get?_push_of_some _ (hk1 b o e))) (rwL Array.toArray_toList (Heap.get?_push_size _ rfl)) ?_)))
 cases q:hh.get? (h1.push {cls:=.type "dict",data:=.dict #[]}).objs.size with
 |none=>rfl
 |some o=>
  have:=Heap.get?_push_of_some {cls:=.type "dict",data:=.dict #[]} (hk1 _ _ q)
  rw[bC]at this;exact aF this
theorem nil_in(h:pa):Frag.In [] h:=λq q e=>aF e
theorem zS:findCls [] (.type "tuple") (.type "type") "__new__" =aa (.val (.builtin "tuple.__new__")):=by first |decide+kernel |kernel_rfl
theorem zQ(h:Q (.builtin "tuple.__new__",[]) {s with toks:=s.toks+1}):ax (iz prog w) A (getMethod (.type "tuple") "__new__" pl) Q E s:=by
 have X:=nil_in s.heap
 have hstub:vq (.type "tuple")=pure none:=by unfold vq;dsimp only;refine rwL (show Manifest.isStub "tuple" =am by decide+kernel) ?_;rfl
 have ht:tw (.type "tuple")=pure (.type "type"):=by first |rfl |kernel_rfl
 have L0:mx (iz prog w) s.heap (tw (.type "tuple")) (.type "type"):=Looks.of_pure ht
 have hg:zk [] (.type "type") "__getattribute__" =aa (aa (.builtin "type.__getattribute__")):=type_tga
 unfold getMethod vp
 refine zzB (zzB (L0.here ((mo X hg).here ?_)))
 dsimp only
 refine rwL (bo canon_tga) (zzB (ir (Q:=λv=>Q (v,[])) (E:=E) ?_ (λq q z=>zzP z) λq q z=>z))
 have LO:mx (iz prog w) s.heap (vq (.type "tuple")) none:=Looks.of_pure hstub
 have hh:handedIn (.builtin "tuple.__new__")=ak:=by decide+kernel
 refine cls_open X LO L0 hg (looks_hook X (r:=none) (by rfl)) (by show subIn [] _ _=_;rfl) zS
  (zzP (by refine(?_:ax _ _ (handedOut (.builtin "tuple.__new__")) _ _ _);exact rwL (handedOut_of hh) (zzP h)))
def V.rw:V->aj dv | .raw a=>aa a |_=>Option.none
theorem VR.toRaw{a:dv}(r:VR ρ h u v)(e:v.rw=aa a):u= .ref a:=by
 cases v with
 |raw=>exact cxS e r.inv
 |_=>first |exact aF e |cases e
def i3(l:ae Int):aj (Int×Int×Int):=match l with | [i,j,k]=>aa (i,j,k) |_=>none
theorem i3_ok(e:i3 l=aa p):l= [p.1,p.2.1,p.2.2]:=by
 refine vC (aCo (F:=i3) e rfl (λq=>rfl) (λq q=>rfl) λq q q q q=>rfl) λa b c z=>?_;subst z;refine cxS e ?_;rfl
def aAo(vs:ae V):aj (ae Int):=match vs with | [a,b]=>if a.rw=aa 135 then b.tp.bind Tis else none |_=>none
set_option tactic.hygienic true in
theorem aAn(r:VRs ρ h us vs)(e:aAo vs=aa is):∃ tp xs n ts,us= [.ref 135,.ref tp]/\h.get? tp=aa {cls:=.type "tuple",data:=.seq xs n}/\ts.length=is.length/\xs.toList=(is.zip ts).map λx=>Value.int x.1 x.2:=by
 refine xEE (rR (F:=aAo) e rfl (λq=>rfl) λq q q q=>rfl) λa b z=>?_;subst z
 replace e:=show (if _ then _ else _)=_ from e
 split at e
 ·rename_i h1
  exact xEA (aq.mp e) λws h2 e=>cC r.a2 λu v z116 ru rv=>rwL z116 (cR (rv.toTup h2) λtp xs n q z117 g rs=>rwL z117 (xEA (rs.ints e) λts t1 t2=>⟨tp,xs,n,ts,by exact rwL (ru.toRaw h1) rfl,g,t1,t2⟩))
 ·exact aF e
def yG(fs:EFs):EF:=λlo H Q=>fs lo H λvs H1=>Lf ((aAo vs).bind i3) λp=>Q (.mat p.1 p.2.1 p.2.2) H1
theorem EV.tnew(F0:∀ h,(∀ b o,C.base.heap.get? b=aa o->h.get? b=aa o)->sZ C.M h)(hg:Glo C "tuple" (.type "tuple"))(hk:env.kindOf "tuple" =aa .globalImplicit)(ha:EVs C r env es fs)(hfl:mU env es)(sh:gK env (.Name "tuple" np) "__new__" apos pos es):EV C r env (.Call (.Attribute (.Name "tuple" np) "__new__" apos) es [] pos) (yG fs):=λA s ρ H lo Q hr S F q=>fH (P:=λc c=>vt) sh.base sh.few sh.line (lV hg hk (by decide+kernel) S F λpl=>zQ (qi (P:=λh=>∀ b o,C.base.heap.get? b=aa o->h.get? b=aa o) (by rw[hfl.2];rfl) c9
  (wmN (lI ha hfl hr (S.toks (s.toks+1)) (F.nx (.toks _)) q) λa s1 p=>by
  obtain⟨ps,kw⟩:=a
  obtain⟨hkw,S1,N1,rs,q⟩:=p
  refine rwL hkw ⟨S1.keep,q.elim λp hp q=>(xEA (aq.mp hp) λis h1 h2=>nQ (aAn rs h1) λtp xs n ts hps gt t1 t2=>(rwL hps ?_))⟩
  obtain rfl:=i3_ok h2
  refine vC (ts3 t1 t2) λt u w t3=>?_
  have hx3:xs= #[.int p.1 t,.int p.2.1 u,.int p.2.2 w]:=Array.toList_inj.mp t3
  subst hx3
  exact jy (yX (λh hk=>F0 h λb o e=>hk b o (S1.keep b o e)) gt (show 3<100 by decide) λh' x dd hk hx hnx=>⟨S1.extS hk,(Nx.toks _).trans (N1.trans (.ext (k:=s1.toks) hk)),.mat hx,q⟩))))
structure KMx(C:Cx)(K:vi):Prop where
 toK:KCx C K
 bases:∃ oc od cd sl,K.lookup aG=aa ⟨oc,od,.cls cd,sl⟩/\cd.bases= [.type "tuple"]
 iter:zk K (.ref aG) "__iter__" =aa (aa (.builtin "tuple.__iter__"))
 len:zk K (.ref aG) "__len__" =aa (aa (.builtin "tuple.__len__"))
 lt:zk K (.ref aG) "__lt__" =aa (aa (.builtin "tuple.__lt__"))
 tup:subIn K (.ref aG) (.type "tuple")=aa ak
theorem aAy:qe qj "tuple.__iter__" =aa Builtin.«tuple.__iter__»:=nh ⋯
theorem aAu:qe qj "tuple.__len__" =aa Builtin.«tuple.__len__»:=nh ⋯
theorem aFr:qk "tuple.__iter__" =aa .slot:=by decide+kernel
theorem aAw:splitId "tuple.__iter__" =aa ("tuple","__iter__"):=by decide+kernel
theorem aAx:ze "tuple.__iter__" =ak:=by decide+kernel
theorem aFs(a:bx):sx "tuple.__iter__" ⟨[a],[]⟩:=by unfold sx;kernel_rfl
theorem aFp:qk "tuple.__len__" =aa .slot:=by decide+kernel
theorem aAs:splitId "tuple.__len__" =aa ("tuple","__len__"):=by decide+kernel
theorem aAt:ze "tuple.__len__" =ak:=by decide+kernel
theorem aFq(a:bx):sx "tuple.__len__" ⟨[a],[]⟩:=by unfold sx;kernel_rfl
theorem ifb{b:fq}(L:mx M s.heap m x)(h:Q (aa x) s):ax M A (if b=ak then(do let y<-m;pure (aa y)) else(do let y<-m;pure (aa y):Sem (aj (bx×ae bx))).tryCatch λq=>do rule "special.get-raises-dropped";pure none) Q E s:=by
 split
 ·exact zzB (L.here (zzP h))
 ·exact wpAny_tryCatch (zzB (L.here (zzP h)))
set_option maxHeartbeats 1000000 in
theorem vO{K:vi}(hK:KMx C K){a:dv}(X:K.In s.heap)(hx:s.heap.get? a=aa {cls:=.ref aG,dict:=dd,data:=.seq xs n})(h:Q (.ref s.heap.objs.size) {s with heap:=s.heap.push {cls:=.type "tuple_iterator",data:=.fields #[.ref a,.int 0 0]}}):ax C.M A (wu (.ref a)) Q E s:=by
 obtain⟨hh,g,d,t,os⟩:=s
 dsimp only at*
 have tx:mx C.M hh (tw (.ref a)) (.ref aG):=(Looks.ld hx).andThen .now
 have L1:=mo (M:=C.M) X hK.iter
 have isI:mx C.M hh (td (.ref a) (.type "tuple")) ak:=tx.andThen (xc X hK.tup)
 have bI:=Looks.of_pure (M:=C.M) (h:=hh) (slot_tuple_iter.bind (.ref a))
 unfold wu callSpecialIfBoundUnlessNone? vp
 repeat (first |with_reducible refine jy ?_ |lk)
 refine ifb (s:=⟨hh,g,d,t,os⟩) bI ?_
 repeat (first |rw[show (Value.builtin "tuple.__iter__" ==Value.none)=am from by decide,gu,jh] |with_reducible refine jy ?_ |lk)
 refine kh aAx aAy (vw aFr aAw isI (aFs _) (?_:ax _ _ (do ret (<-newFields "tuple_iterator" [.ref a,rawInt 0])) _ _ _))
 refine zzB (iy (zzP (zzP (zzB (zzB (yn (T:="tuple_iterator") ⟨_,Heap.get?_push_size _ rfl,rfl⟩ ?_))))))
 exact kg my.lookup (zzP h)
theorem j8(hit:yw s.heap it t i)(hol:s.heap.get? t=aa ol)(hdl:ol.data= .seq items nl)(hx:items[i]? =aa x)(hQ:∀ h',yw h' it t (i+1)->Heap.SameBut it s.heap h'->Q (aa x) {s with heap:=h'}):ax (iz prog w) A (mi (.ref it)) Q E s:=by
 refine dY (id hit) λo ho hc hd=>?_
 unfold mi
 refine zzB (ox (fx (name:=Str.ofString "__next__") hit.typeIs my
  (ii my hit.typeIs xd ?_ (xr _))))
 refine(?_:ax _ _ (xy (.ref it) 0 >>=_) _ _ s)
 refine zzB (jv ho hd (x:=.ref t) rfl ((rwL (bc (show¬((Value.ref t==Value.none)=ak) from Bool.false_ne_true)) ?_):ax _ _ (if (Value.ref t==Value.none)=ak then _ else _) _ _ s))
 show ax _ _ (xy (.ref it) 1 >>=_) _ _ s
 refine zzB (jv ho hd (x:=.int i 0) rfl ((zzB (jb hol hdl ?_)):ax _ _ (vm (.ref t) >>=_) _ _ s))
 simp only[mr,hx]
 refine zzB (qy ho hd (by simp) (zzP ⟨x,rfl,zzP (hQ _ ?_ (Heap.SameBut.update ..))⟩))
 exact⟨_,Heap.get?_update_self _ ho (Obj.isFreed_of_fields (Obj.data_mapFields hd _)),(Obj.cls_mapFields ..).trans hc,by
  rw[Obj.data_mapFields hd];simp [rawInt]⟩
theorem zH(hh:A.handled=none)(hit:yw s.heap it t i)(hol:s.heap.get? t=aa ol)(hdl:ol.data= .seq items nl)(hx:items[i]? =none)(hQ:∀ h',Heap.ExtBut it s.heap h'->Q none {s with heap:=h'}):ax (iz prog w) A (mi (.ref it)) Q E s:=by
 refine dY (id hit) λo ho hc hd=>?_
 unfold mi
 refine zzB (ox (fx (name:=Str.ofString "__next__") hit.typeIs my
  (ii my hit.typeIs xd ?_ (xr _))))
 refine(?_:ax _ _ (xy (.ref it) 0 >>=_) _ _ s)
 refine zzB (jv ho hd (x:=.ref t) rfl ((rwL (bc (show¬((Value.ref t==Value.none)=ak) from Bool.false_ne_true)) ?_):ax _ _ (if (Value.ref t==Value.none)=ak then _ else _) _ _ s))
 show ax _ _ (xy (.ref it) 1 >>=_) _ _ s
 refine zzB (jv ho hd (x:=.int i 0) rfl ((zzB (jb hol hdl ?_)):ax _ _ (vm (.ref t) >>=_) _ _ s))
 simp only[mr,hx]
 refine zzB (sy (zzB (qy ho hd (by simp) (?_:ax _ _ (uu (.type "StopIteration") [] >>=_) _ _ _))))
 refine zzB ?_
 simp only[uu,zj]
 refine zzB (iy (zzB (m:=lx _ _) (kg (a:=Value.none) (by first |rfl | (rw[lx];rfl)) (iy ?_ (by size_fits)))) (by size_fits))
 delta raiseNew;dsimp only
 refine zzB (vh ?_)
 first |refine rwL (show A.in1.handled=none from hh) ?_ |rw[hh]
 refine zzB (zzP (xa ?_))
 refine zzB (nk (T:="StopIteration") (b:=ak) ⟨_,Heap.get?_push_size _ rfl,rfl⟩ uv ?_)
 exact zzP (hQ _ (((Heap.SameBut.update ..).extBut.push _).push _))
theorem vF{K:vi}(hK:KMx C K){a:dv}(hh:A.handled=none)(X:K.In s.heap)(hx:s.heap.get? a=aa {cls:=.ref aG,dict:=dd,data:=.seq #[x,y,z] n})(hn:targets.length=3)(hstar:targets.findIdx? (·.1)=none)(h:∀ h',(∀ b o,s.heap.get? b=aa o->h'.get? b=aa o)->ax C.M A (qc (targets.map (·.2)) [x,y,z]) Q E {s with heap:=h'}):ax C.M A (unpack (.ref a) targets) Q E s:=by
 unfold unpack
 refine rwL hn (rwL hstar (zzB (bz ?_)))
 unfold yz
 have tx:mx C.M s.heap (tw (.ref a)) (.ref aG):=(Looks.ld hx).andThen .now
 have L1:=mo (M:=C.M) X hK.iter
 refine zzB ?_
 unfold notIterableAtAll vp
 refine zzB (zzB (tx.here (L1.here (zzP ?_))))
 simp only[gu,jh]
 refine zzB (bz (vO hK X hx ?_))
 have hne:a≠s.heap.objs.size:=uk (Heap.lt_size hx)
 have hit0:yw (s.heap.push {cls:=.type "tuple_iterator",data:=.fields #[.ref a,.int 0 0]}) s.heap.objs.size a 0:=⟨_,Heap.get?_push_size _ rfl,rfl,rfl⟩
 have hx0:=Heap.get?_push_of_some {cls:=.type "tuple_iterator",data:=.fields #[.ref a,.int 0 0]} hx
 refine zzB (bz (?_:ax _ _ (mi _ >>=_) _ _ _))
 refine zzB (j8 (s:= {s with heap:=s.heap.push {cls:=.type "tuple_iterator",data:=.fields #[.ref a,.int 0 0]}}) hit0 hx0 rfl (x:=x) rfl λh1 hit1 hs1=>?_)
 have hx1:=hs1.extBut a _ hne hx0
 refine zzB (bz (?_:ax _ _ (mi _ >>=_) _ _ _))
 refine zzB (j8 (s:= {s with heap:=h1}) hit1 hx1 rfl (x:=y) rfl λh2 hit2 hs2=>?_)
 have hx2:=hs2.extBut a _ hne hx1
 refine zzB (bz (?_:ax _ _ (mi _ >>=_) _ _ _))
 refine zzB (j8 (s:= {s with heap:=h2}) hit2 hx2 rfl (x:=z) rfl λh3 hit3 hs3=>?_)
 have hx3:=hs3.extBut a _ hne hx2
 refine zzB (bz (?_:ax _ _ (pure []) _ _ _))
 refine zzP (zzP (zzP (zzP (rwL (bc (by simp)) (zzB (bz (zH (s:= {s with heap:=h3}) hh hit3 hx3 rfl rfl λh4 he4=>?_)))))))
 simp only[Option.isSome_none,gu,jh]
 refine zzP (h h4 λb o e=>?_)
 have hb:b≠s.heap.objs.size:=uk (Heap.lt_size e)
 exact he4 b o hb (hs3.extBut b o hb (hs2.extBut b o hb (hs1.extBut b o hb (Heap.get?_push_of_some _ e))))
def V.mt:V->aj (Int×Int×Int) | .mat i j k=>aa (i,j,k) |_=>Option.none
theorem mt_ok{v:V}(e:v.mt=aa p):v= .mat p.1 p.2.1 p.2.2:=by
 cases v with
 |mat=>refine cxS e ?_;rfl
 |_=>first |exact aF e |cases e
def cZ(n:Nat)(g:AFs):AF:=λv lo H Q=>match v.mt with
 |some p=>n=3/\g [.int p.1,.int p.2.1,.int p.2.2] lo H Q
 |none=>sX n g v lo H Q
set_option tactic.hygienic true in
theorem AV.tupleM{K:vi}(hK:KMx C K){pos}(h:AVs C r env ts g)(hn:(fu ts env).length=n)(hstar:(fu ts env).findIdx? (·.1)=none):AV C r env (.Tuple ts k pos) (cZ n g):=by
 intro A s ρ H lo u v Q hr S F rv e
 unfold cZ at e
 split at e
 ·rename_i p hp
  obtain⟨h3,e⟩:=e
  subst h3
  obtain⟨a,n,t1,t2,t3,dd,rfl,hx⟩:=rv.toMat (mt_ok hp)
  rw[assign_Tuple]
  exact zzB (ie (vF hK hr.1 (hK.toK.mem.keeps S.keep) hx hn hstar λh' hk=>(wmN (h hr (S.extS hk) (F.nx (.ext (k:=s.toks) hk)) (.cons (.int _ _) (.cons (.int _ _) (.cons (.int _ _) .nil))) e) λq q p=>p.from (Nx.ext (k:=s.toks) hk))))
 ·exact AVW.tuple h hn hstar hr S F rv e
def bY:CF:=λvs H Q=>match (one vs).bind V.mt with
 |some _=>Q (.int 3) H
 |none=>cLen vs H Q
set_option maxHeartbeats 1000000 in
theorem sV{K:vi}(hK:KMx C K){s:aw}{a:dv}(X:K.In s.heap)(hx:s.heap.get? a=aa {cls:=.ref aG,dict:=dd,data:=.seq xs n})(hfit:(xs.size:Int)<2 ^ 63)(h:Q (.int xs.size (s.toks+1)) {s with toks:=s.toks+1+1}):ax C.M A (call (.builtin "len") [.ref a]) Q E s:=by
 refine call_function_entry kind_len plain_len entry_len (args_len1 _) ?_
 unfold Builtin.«len»
 refine zzB (m:=oneArg "len" _) (zzP ?_)
 have tx:mx C.M s.heap (tw (.ref a)) (.ref aG):=(Looks.ld hx).andThen .now
 have L1:=mo (M:=C.M) X hK.len
 have isI:mx C.M s.heap (td (.ref a) (.type "tuple")) ak:=tx.andThen (xc X hK.tup)
 have bI:=Looks.of_pure (M:=C.M) (h:=s.heap) (slot_tuple_len.bind (.ref a))
 have key:∀ {A':gj}{E':bx->aw->Prop}{Q':aj bx->aw->Prop},Q' (aa (.int xs.size s.toks)) {s with toks:=s.toks+1}->ax C.M A' (ud (.ref a) "__len__") Q' E' s:=by
  intro A' E' Q' hq
  unfold ud vp
  refine zzB (zzB (tx.here (L1.here ?_)))
  dsimp only
  refine bz (zzB (bI.here (zzB (jy (kh aAt aAu (vw aFp aAs isI (aFq _) (?_:ax _ _ (do let ts<-Builtin.Tuple.tupleItemsOf (.ref a);retInt ts.size) _ _ s)))))))
  unfold Builtin.Tuple.tupleItemsOf
  refine zzB (zzB (jb hx rfl (zzP (zzB (wpAny_mkInt (zzP (zzP hq)))))))
 exact zzB (key (zzB (bz (zzP (zzB (zb (rwL (bc A14) (rwL (bc (A45 hfit)) (zzB (wpAny_mkInt (zzP ⟨_,rfl,h⟩)))))))))))
set_option tactic.hygienic true in
theorem CV.lenM{K:vi}(hK:KMx C K):CV C r (.builtin "len") bY:=by
 refine⟨c9,?_⟩
 intro A s ρ H us vs Q hr S rs e
 unfold bY at e
 split at e
 ·rename_i p hp
  exact xEA (aq.mp hp) λv hv hp=>xEA (j7 rs hv) λu z119 ru=>rwL z119 (kS (ru.toMat (mt_ok hp)) λa n t1 t2 t3 dd z120 hx=>rwL z120 (sV hK (hK.toK.mem.keeps S.keep) hx (by simp) (.tok (k:=s.toks+1+1) S (.int _ _) e)))
 ·exact CV.len.call hr S rs e
theorem vU:jn (.type "map") "__len__" =pure none:=by rw[fg,dk];kernel_rfl
theorem tZ:jn (.type "map") "__length_hint__" =pure none:=by rw[fg,dk];kernel_rfl
theorem aB9:Slot "map" "__init__" "object.__init__" :=.of (owner:="object") (n:="__init__") (by rw[fg,dk];kernel_rfl) (by decide+kernel) (by decide+kernel) (by decide+kernel)
  (by first |exact .inl (by decide+kernel) |exact .inr (by decide+kernel)) (by rw[je];kernel_rfl)
theorem jB:Slot "map" "__next__" "map.__next__" :=.of (owner:="map") (n:="__next__") (by rw[fg,dk];kernel_rfl) (by decide+kernel) (by decide+kernel) (by decide+kernel)
  (by first |exact .inl (by decide+kernel) |exact .inr (by decide+kernel)) (by rw[je];kernel_rfl)
theorem t5:Slot "map" "__iter__" "map.__iter__" :=.of (owner:="map") (n:="__iter__") (by rw[fg,dk];kernel_rfl) (by decide+kernel) (by decide+kernel) (by decide+kernel)
  (by first |exact .inl (by decide+kernel) |exact .inr (by decide+kernel)) (by rw[je];kernel_rfl)
theorem jA:qe qj "map.__next__" =aa Builtin.«map.__next__»:=nh ⋯
theorem jY(a:bx):sx "map.__next__" ⟨[a],[]⟩:=by unfold sx;kernel_rfl
theorem oI:qe qj "map.__iter__" =aa Builtin.«dict_keyiterator.__iter__»:=ww (id':="dict_keyiterator.__iter__") (by rw[fastTable_eq_tree];kernel_rfl) (by first |rfl |decide+kernel) (by decide+kernel) (by rw[fastTable_eq_tree];kernel_rfl)
theorem pY(a:bx):sx "map.__iter__" ⟨[a],[]⟩:=by unfold sx;kernel_rfl
theorem xK:mroOf (.type "map")=pure [.type "map",.type "object"]:=by rw[mroOf_type];kernel_rfl
theorem aB8:jn (.type "map") "__new__" =pure (aa (.builtin "map.__new__")):=by rw[fg,dk];kernel_rfl
theorem vV:TypeCalled "map" "map.__new__" "object.__init__" :=⟨by decide+kernel,by decide+kernel,⟨_,_,xK⟩,madeBy_type xK aB8 (by decide+kernel),by decide+kernel,by rw[je];kernel_rfl,aB9⟩
theorem zL(a b:bx):checkTypeCall "map" ⟨[a,b],[]⟩=pure ():=by rfl'
theorem zM(a b:bx):checkBuiltinCall "map.__new__" ⟨[.type "map",a,b],[]⟩=pure ():=by rfl'
theorem pX:qe qj "map.__new__" =aa Builtin.«map.__new__»:=nh ⋯
theorem aGm:po (.type "map") (.type "map")=pure ak:=by rw[je];kernel_rfl
noncomputable abbrev aCb(h:pa)(l:dv):pa:=h.push {cls:=.type "list_iterator",data:=.fields #[.ref l,.int 0 0]}
noncomputable abbrev xL(h:pa)(l:dv):pa:=(aCb h l).push {cls:=.type "tuple",data:=.seq #[.ref h.objs.size]}
noncomputable abbrev aCa(h:pa)(f:bx)(l:dv):pa:=(xL h l).push {cls:=.type "map",data:=.fields #[.ref (aCb h l).objs.size,f]}
theorem pW(f:bx)(l:dv)(xs:om bx):Meets (Builtin.«map.__new__» ⟨[.type "map",f,.ref l],[]⟩) (λq R s=>s.heap.IsList l xs/\R (.ok (.ret (.ref (xL s.heap l).objs.size))) {s with heap:=aCa s.heap f l}):=.of_wp λprog w A R s h=>by
  obtain⟨hp,g,d,tk,os⟩:=s;refine xA h λhl1 h=>?_
  have hsub:=aGm
  have hL1:Heap.IsList (Shared.heap ⟨hp,g,d,tk,os⟩) l xs:=hl1
  wp_walk using qr hL1
  exact⟨_,rfl,h⟩
theorem aEo(hl:s.heap.IsList l xs)(h:Q (.ref (xL s.heap l).objs.size) {s with heap:=aCa s.heap f l}):ax (iz prog w) A (call (.type "map") [f,.ref l]) Q E s:=callType_new vV (by decide) (zL _ _) (zM _ _) (λobj=>PySem.F.args_object_init_3 obj _ _) pX (pW f l xs) ⟨hl,⟨⟨_,Heap.get?_push_size _ rfl,rfl⟩,h⟩⟩
theorem kA(hit:s.heap.IsListIter it l i)(hl:s.heap.IsList l items)(hx:items[i]? =aa x)(hQ:∀ h',h'.IsListIter it l (i+1)->Heap.SameBut it s.heap h'->Q (aa x) {s with heap:=h'}):ax (iz prog w) A (ud (.ref it) "__next__") Q E s:=by
 refine dY (id hit) λo ho hc hd=>wV hl λol hol q nl hdl=>fx (name:=Str.ofString "__next__") hit.typeIs lr
  (ii lr hit.typeIs tz ?_ (ut _))
 refine(?_:ax _ _ (xy (.ref it) 0 >>=_) _ _ s)
 refine zzB (jv ho hd (x:=.ref l) rfl ((rwL (bc (show¬((Value.ref l==Value.none)=ak) from Bool.false_ne_true)) ?_):ax _ _ (if (Value.ref l==Value.none)=ak then _ else _) _ _ s))
 show ax _ _ (xy (.ref it) 1 >>=_) _ _ s
 refine zzB (jv ho hd (x:=.int i 0) rfl ((zzB (jb hol hdl ?_)):ax _ _ (vm (.ref l) >>=_) _ _ s))
 simp only[mr,hx]
 refine zzB (qy ho hd (by simp) (zzP ⟨x,rfl,hQ _ ?_ (Heap.SameBut.update ..)⟩))
 exact⟨_,Heap.get?_update_self _ ho (Obj.isFreed_of_fields (Obj.data_mapFields hd _)),(Obj.cls_mapFields ..).trans hc,by
  rw[Obj.data_mapFields hd];simp [rawInt]⟩
theorem k8(hh:A.handled=none)(hit:s.heap.IsListIter it l i)(hl:s.heap.IsList l items)(hx:items[i]? =none)(hE:∀ h' y,(∃ o,h'.get? y=aa o/\o.cls= .type "StopIteration")->Heap.ExtBut it s.heap h'->E (.ref y) {s with heap:=h'}):ax (iz prog w) A (ud (.ref it) "__next__") Q E s:=by
 refine dY (id hit) λo ho hc hd=>wV hl λol hol q nl hdl=>fx (name:=Str.ofString "__next__") hit.typeIs lr
  (ii lr hit.typeIs tz ?_ (ut _))
 refine(?_:ax _ _ (xy (.ref it) 0 >>=_) _ _ s)
 refine zzB (jv ho hd (x:=.ref l) rfl ((rwL (bc (show¬((Value.ref l==Value.none)=ak) from Bool.false_ne_true)) ?_):ax _ _ (if (Value.ref l==Value.none)=ak then _ else _) _ _ s))
 show ax _ _ (xy (.ref it) 1 >>=_) _ _ s
 refine zzB (jv ho hd (x:=.int i 0) rfl ((zzB (jb hol hdl ?_)):ax _ _ (vm (.ref l) >>=_) _ _ s))
 simp only[mr,hx]
 refine zzB (sy (zzB (qy ho hd (by simp) (?_:ax _ _ (uu (.type "StopIteration") [] >>=_) _ _ _))))
 refine zzB ?_
 simp only[uu,zj]
 refine zzB (iy (zzB (m:=lx _ _) (kg (a:=Value.none) (by first |rfl | (rw[lx];rfl)) (iy ?_ (by size_fits)))) (by size_fits))
 delta raiseNew;dsimp only
 exact zzB (vh (rwL (show A.in1.handled=none from hh) (zzB (zzP (xa (hE _ _ ⟨_,Heap.get?_push_size _ rfl,rfl⟩ (((Heap.SameBut.update ..).extBut.push _).push _)))))))
structure vB(h:pa)(z TI it m l:dv)(k:Nat):Prop where
 z:h.get? z=aa {cls:=.type "map",data:=.fields #[.ref TI,.ref m]}
 TI:h.get? TI=aa {cls:=.type "tuple",data:=.seq #[.ref it]}
 it:h.IsListIter it l k
 m:h.get? m=aa (vr (.ref 89) (.ref aG))
theorem aB7(P:vB s.heap z TI it m l k)(hzi:z≠it)(hTi:TI≠it)(hmi:m≠it)(hl:s.heap.IsList l items)(hx:items[k]? =aa x)(hQ:∀ h',vB h' z TI it m l (k+1)->Heap.SameBut it s.heap h'->ma (iz prog w) A.in1 (.call (.ref 89) ⟨[.ref aG,x],[]⟩) (λrr s'=>match rr with | .ok (.ret v)=>Q (aa v) s' |_=>fh) {s with heap:=h'}):
  ax (iz prog w) A (mi (.ref z)) Q E s:=by
 have hT:s.TypeIs (.ref z) "map" :=⟨_,P.z,rfl⟩
 unfold mi
 refine zzB (ox (fx (name:=Str.ofString "__next__") hT jB (ii jB hT jA ?_ (jY _))))
 unfold Builtin.«map.__next__»
 refine zzB (m:=slotArgs "__next__" 0 _) (zzP (zzB (jv P.z rfl (x:=.ref TI) rfl (zzB (jb P.TI rfl ?_)))))
 dsimp only
 refine rwR Array.forIn_toList ?_
 show ax _ _ (forIn [Value.ref it] #[] _ >>=_) _ _ s
 rw[oe]
 refine zzB (zzB (zzB (bz ?_)))
 unfold Builtin.SmallTypes.nextOf
 refine zzB (kA P.it hl hx λh1 hit1 hs1=>(zzP (zzP ?_)))
 dsimp only
 refine rwL yu (zzP ?_)
 have P1:vB h1 z TI it m l (k+1):=⟨hs1.extBut z _ hzi P.z,hs1.extBut TI _ hTi P.TI,hit1,hs1.extBut m _ hmi P.m⟩
 refine zzB (jv (s:= {s with heap:=h1}) P1.z rfl (x:=.ref m) rfl (zzB (bz (jy (method_call (s:= {s with heap:=h1}) P1.m (ny (hQ h1 P1 hs1) ?_))))))
 intro rr s' hr
 cases rr with
 |error e=>exact hr.elim
 |ok f=>
  cases f with
  |ret v=>exact zzB (zb (zzP ⟨v,rfl,zzP hr⟩))
  |_=>exact hr.elim
theorem aGn(hh:A.handled=none)(P:vB s.heap z TI it m l k)(hl:s.heap.IsList l items)(hx:items[k]? =none)(hQ:∀ h',Heap.ExtBut it s.heap h'->Q none {s with heap:=h'}):ax (iz prog w) A (mi (.ref z)) Q E s:=by
 have hT:s.TypeIs (.ref z) "map" :=⟨_,P.z,rfl⟩
 unfold mi
 refine zzB (ox (fx (name:=Str.ofString "__next__") hT jB (ii jB hT jA ?_ (jY _))))
 unfold Builtin.«map.__next__»
 refine zzB (m:=slotArgs "__next__" 0 _) (zzP (zzB (jv P.z rfl (x:=.ref TI) rfl (zzB (jb P.TI rfl ?_)))))
 dsimp only
 refine rwR Array.forIn_toList ?_
 show ax _ _ (forIn [Value.ref it] #[] _ >>=_) _ _ s
 rw[oe]
 refine zzB (zzB (zzB (bz ?_)))
 unfold Builtin.SmallTypes.nextOf
 exact zzB (k8 hh P.it hl hx λh1 y hy he=>(xEA hy λo ho hc=>zzB (nk (T:="StopIteration") (b:=ak) ⟨o,ho,hc⟩ uv (zzP (hQ h1 he)))))
theorem Ti_eq(e:Ti v=aa i):v= .int i:=by
 cases v with
 |int=>refine cxS e ?_;rfl
 |_=>first |exact aF e |cases e
theorem aFd:∀ {vs:ae V}{is:ae Int},Tis vs=aa is->vs=is.map .int
 | [],_,e=>by refine cxS e ?_;rfl
 |v::vs,is,e=>by
  simp only[Tis,xj,yj,aq,pure_def,Option.some.injEq]at e
  refine aAd e λi h1 js h2 z121=>?_;clear e;subst z121
  refine rwL (Ti_eq h1) (rwL (aFd h2) ?_);rfl
def t3(v:V):aj (Int×Int×Int):=(v.tp.bind Tis).bind i3
theorem t3_eq(e:t3 v=aa p):v= .tup [.int p.1,.int p.2.1,.int p.2.2]:=by
 refine xEA (aq.mp e) λl h1 h2=>xEA (aq.mp h1) λws h3 h4=>?_
 obtain rfl:=i3_ok h2
 obtain rfl:=aFd h4
 cases v with
 |tup=>refine cyS h3 λzq=>rwL zq ?_;rfl
 |_=>exact aF h3
def pQ(C:Cx)(r:Nat):Prop:=∀ {A:gj}{s:aw}{ρ:ae Lc}{H:MH}{a:bx}{i j k:Int},Room r A->Sim C H ρ s->VR ρ s.heap a (.tup [.int i,.int j,.int k])->
 ma C.M A (.call (.ref 89) ⟨[.ref aG,a],[]⟩) (s6 C ρ s λv H'=>v= .mat i j k/\H'=H) s
inductive MpR(ρ:ae Lc)(h:pa)(σ:Nat×Nat):bx->(dv->Prop)->Prop
 |mk {z TI it m l} (h1:ρ[σ.1]? =aa l) (n1:z≠it) (n2:TI≠it) (n3:m≠it) (P:vB h z TI it m l.a σ.2):MpR ρ h σ (.ref z) (λb=>b=z\/b=it\/b=m)
theorem MpR.mono(R:MpR ρ h σ x X)(e:ρ<+:ρ')(i:Imm h h')(hk:∀ b o,X b->h.get? b=aa o->h'.get? b=aa o):MpR ρ' h' σ x X:=by
 cases R with
 |mk h1 n1 n2 n3 P=>
  obtain⟨p1,p2,⟨o,p3,p3'⟩,p4⟩:=P
  exact .mk (aT e h1) n1 n2 n3 ⟨hk _ _ (.inl rfl) p1,i _ _ p2 (by simp [aX]),⟨o,hk _ _ (.inr (.inl rfl)) p3,p3'⟩,hk _ _ (.inr (.inr rfl)) p4⟩
theorem NxI.thenN(I:NxI ρ X s ρ1 s1)(N:Nx ρ1 noW s1 ρ2 s2)(hX:∀ b,X b->(∃ o,s.heap.get? b=aa o)->∃ o,s1.heap.get? b=aa o):NxI ρ X s ρ2 s2:=by
 refine⟨I.pre.trans N.pre,λl hl=>(xE I.pre λt z122=>?_),λb o e ho hx=>N.kp b o (I.kp b o e ho hx) (I.owns e ho) id,I.imm.trans N.imm,λb o e hx=>let ⟨o',e'⟩:=I.al b o e hx;N.al b o' e'⟩;subst z122
 refine xE N.pre λt' z123=>?_;subst z123
 rw[bn,vk]at hl
 have fr:∀ b,s1.heap.get? b=none->s.heap.get? b=none:=λb hb=>by
  cases e:s.heap.get? b with
  |none=>rfl
  |some o=>
   have:∃ o',s1.heap.get? b=aa o':=Classical.byCases (λq:X b=>hX b q ⟨o,e⟩) λq=>I.al b o e q
   refine xE this λo' e'=>?_
   rw[hb]at e';exact aF e'
 refine Or.elim (cu.mp hl) (λq=>(I.new l (by simpa using q))) λq=>?_
 ·have n:=N.new l (by simpa using q)
  exact⟨fr _ n.1,fr _ n.2⟩
set_option tactic.hygienic true in
def rS(C:Cx)(r0:Nat)(hm:pQ C r0):ItK C where
 σ:=Nat×Nat
 nx:=λit H Q=>Lf (lst H (.ref it.1)) λvs=>match vs[it.2]? with
  |none=>Q none H
  |some v=>Lf (t3 v) λp=>Q (aa (.mat p.1 p.2.1 p.2.2,(it.1,it.2+1))) H
 rel:=λρ s σ x X=>MpR ρ s.heap σ x X
 mid:=λρ s σ u x X=>MpR ρ s.heap σ x X
 tg:=λd=>vt
 need:=r0+1
 mono:=λR e i hk=>R.mono e i hk
 alive:=λR b hb=>by
  cases R with
  |mk h1 n1 n2 n3 P=>
   obtain⟨p1,p2,⟨o,p3,p3'⟩,p4⟩:=P
   rcases hb with rfl |rfl |rfl
   ·exact⟨_,p1⟩
   ·exact⟨_,p3⟩
   ·exact⟨_,p4⟩
 next:=λ{A s ρ H σ x X Q r} hnd hr S R hX q=>by
  have hr':Room r0 A.in1:=by
   refine xAA hr λa b c=>?_
   exact⟨a,by show A.depth+10*r0<=700;exact A46 hnd b,by show A.units+1+40*r0<=8000;exact A47 hnd c⟩
  refine q.elim λvs hl q=>?_
  cases R with
  |mk h1 n1 n2 n3 P=>
  rename_i z TI it m l
  refine cC (cJ S (.ref h1) hl) λad xs q1 q2 q3=>?_
  cases q1
  refine dY P.it λoi hoi hci hdi=>?_
  have hi:∀ o,s.heap.get? it=aa o->¬aX o:=λo' e'=>by rw[hoi]at e';cases e';exact rO hci hdi
  have hXi:=hX it (.inr (.inl rfl))
  cases hv:vs[σ.2]? with
  |some v=>
   rw[hv]at q
   refine Lf.elim (o:=t3 v) q λp hp q=>?_
   refine xEA (q3.get hv) λu hu ru=>?_
   rw[t3_eq hp]at ru
   refine aB7 P n1 n2 n3 q2 (by simpa using hu) λh' P' hs=>?_
   have st:=S.iterStep (h':=h') (a:=it) (λb o hb e=>(hs.2 b hb).trans e) hi hXi.1 hXi.2
   refine s6.run (hm hr' st.1 (ru.mono (cx _) st.2.imm)) λS2 N2 r2 q2=>?_
   refine xA q2 λqv z124=>?_;clear q2;subst z124
   have kp:∀ b o,(b=z\/b=it\/b=m)->h'.get? b=aa o->_:=λb o hb eb=>N2.kp b o eb (hX b hb).1 (λq=>q)
   have I2:=st.2.thenN N2 λb hb d=>by rw[show b=it from hb];refine xEA P'.it λo e d=>?_;exact⟨o,e⟩
   refine .item (it':=(σ.1,σ.2+1)) S2 ⟨I2.pre,I2.new,λb o e ho hb=>I2.kp b o e ho λq=>hb (.inr (.inl q)),I2.imm,λb o e hb=>I2.al b o e λq=>hb (.inr (.inl q))⟩ r2 ?_ (by rw[qv];exact q)
   refine xEA P'.it λoi' e1' e2'=>?_
   exact .mk (aT N2.pre h1) n1 n2 n3 ⟨kp z _ (.inl rfl) P'.z,N2.imm _ _ P'.TI (by simp [aX]),⟨oi',kp it _ (.inr (.inl rfl)) e1',e2'⟩,kp m _ (.inr (.inr rfl)) P'.m⟩
  |none=>
   rw[hv]at q
   refine aGn hr.1 P q2 (Array.getElem?_eq_none (by rw[q3.sz];exact getElem?_eq_none_iff.mp hv)) λh' he=>?_
   have st:=S.iterStep (h':=h') (a:=it) (λb o hb e=>he b o hb e) hi hXi.1 hXi.2
   exact .done st.1 ⟨st.2.pre,st.2.new,λb o e ho hb=>st.2.kp b o e ho (λq=>hb (.inr (.inl q))),st.2.imm,λb o e hb=>st.2.al b o e (λq=>hb (.inr (.inl q)))⟩ q
 lgo:=λ{A s ρ H σ x X u target r} hr S R d hX=>by
  have R':=R
  cases R with
  |mk h1 n1 n2 n3 P=>exact jP (T:="map") P.z rfl (by decide) ⟨S,.refl,R'⟩
theorem vP(hT:s.TypeIs (.ref z) "map")(h:Q (.ref z) s):ax (iz prog w) A (wu (.ref z)) Q E s:=wpAny_pyIter_slot hT t5 (ii t5 hT oI ((zzP ⟨_,rfl,"map",_,hT,jB.lookup,h⟩):ax _ _ (ret (.ref z)) _ _ s) (pY _))
theorem aCe(hm:pQ C r0)(hnd:r0+1<=r)(hr:Room (r+1) A)(N0:Nx ρ0 noW s0 ρ s)(S:Sim C H ρ s)(R:MpR ρ s.heap σ (.ref z) X)(hX:∀ b,X b->s0.heap.get? b=none/\¬Own ρ b/\C.base.heap.get? b=none)(e:f9 (rS C r0 hm) H.length n σ (H++[.list []]) Q):ax C.M A (call (.type "list") [.ref z]) (b5 C ρ0 s0 λv H'=>v= .ref H.length/\Q H') NoE s:=by
 have hz:∃ TI m,s.heap.get? z=aa {cls:=.type "map",data:=.fields #[TI,m]}:=by
  cases R with
  |mk h1 n1 n2 n3 P=>exact⟨_,_,P.z⟩
 exact xEE hz λTI m hz=>qI (K:=rS C r0 hm) (T:="map") hnd (λM=>M) (by decide) (by decide) vU tZ hr N0 S R hX ⟨_,hz,rfl⟩ (λs' h q=>vP ⟨_,h.trans hz,rfl⟩ q) e
theorem rV{K:vi}(hK:KCx C K){b:fq}(X:K.In s.heap)(h:Q (.ref s.heap.objs.size) {s with heap:=s.heap.push (vr (.ref 89) (.ref aG)),toks:=s.toks+1}):ax C.M A (vc (.ref aG) "_make" b) Q E s:=xE hK.cmM λbb hb=>cls_bind X hK.readsM hK.makeM (jy (cm_get (s:= {s with toks:=s.toks+1}) X hb (handed_on rfl h)))
theorem u8(he:eh (e::es) env=(am,jl e env)::eh es env)(h:ax M A (spliced (mq pos (eh (e::es) env))) (λvs s'=>Q ⟨vs,[]⟩ s') E s):ax M A (evalArgs f ak (mq pos (eh (e::es) env)) []) Q E s:=by
 rw[he]at h ⊢
 exact evalArgs_plain h
def eLM(K:ItK C)(σ:Nat->K.σ)(f:EF):EF:=λlo H Q=>f lo H λa H1=>Lf a.rf λci=>(∃ vs,lst H1 (.ref ci)=aa vs)/\∃ n,f9 K H1.length n (σ ci) (H1++[.list []]) λH2=>Q (.ref H1.length) H2
theorem EV.listMap{K:vi}(hK:KCx C K)(hm:pQ C r0)(hnd:r0+1<=r)(he:EV C (r+1) env e f)(gl:Glo C "list" (.type "list"))(gm:Glo C "map" (.type "map"))(gM:Glo C "Match" (.ref aG))(kl:env.kindOf "list" =aa .globalImplicit)(km:env.kindOf "map" =aa .globalImplicit)(kM:env.kindOf "Match" =aa .globalImplicit)(e1:eh [.Call (.Name "map" p2) [.Attribute (.Name "Match" p3) "_make" p4,e] [] p5] env=(am,jl (.Call (.Name "map" p2) [.Attribute (.Name "Match" p3) "_make" p4,e] [] p5) env)::eh [] env)(e2:eh [.Attribute (.Name "Match" p3) "_make" p4,e] env=(am,jl (.Attribute (.Name "Match" p3) "_make" p4) env)::eh [e] env)(e3:eh [e] env=(am,jl e env)::eh [] env)(b1:∀ pos,(mq pos (eh [.Call (.Name "map" p2) [.Attribute (.Name "Match" p3) "_make" p4,e] [] p5] env)).any (·.1)=am)(b2:∀ pos,(mq pos (eh [.Attribute (.Name "Match" p3) "_make" p4,e] env)).any (·.1)=am)(hab:kr (.Name "Match" p3) "_make" env (jl (.Name "Match" p3) env)=jl (.Name "Match" p3) env)(hlt:∀ o y,qx (.Name "Match" p3) o y=pure ()):EV C (r+1) env (.Call (.Name "list" p1) [.Call (.Name "map" p2) [.Attribute (.Name "Match" p3) "_make" p4,e] [] p5] [] p6) (eLM (rS C r0 hm) (λi=>(i,0)) f):=by
 intro A s ρ H lo Q hr S F q
 refine oz (lV gl kl (by decide+kernel) S F (qi (P:=λh=>∀ b o,C.base.heap.get? b=aa o->h.get? b=aa o) (by rw[b1];rfl) eY (u8 e1 (su (oz (lV gm km (by decide+kernel) S F (qi (P:=λh=>∀ b o,C.base.heap.get? b=aa o->h.get? b=aa o) (by rw[b2];rfl) eY (u8 e2 (su (dK hab (lV gM kM (by decide+kernel) S F (rV hK (hK.mem.keeps S.keep) ?_))) e2))))) e1))))
 have N0:Nx ρ noW s ρ {s with heap:=s.heap.push (vr (.ref 89) (.ref aG)),toks:=s.toks+1}:=(Nx.push _).trans (.toks _)
 have hm0:(s.heap.push (vr (.ref 89) (.ref aG))).get? s.heap.objs.size=aa (vr (.ref 89) (.ref aG)):=Heap.get?_push_size _ rfl
 refine su (he.run hr ((S.push (vr (.ref 89) (.ref aG))).toks (s.toks+1)) (F.nx N0) q λ{x s1 ρ1 v1 H1} S1 N1 r1 q=>q.elim λci hci q=>(xAE q λz125 n q=>xE z125 λvs hl=>(wg ⟨S1.keep,dY (r1.toRef hci) λlc c z126 g=>rwL z126 (cC (cJ S1 (.ref g) hl) λad xs ha q2 q3=>?_)⟩))) e3
 cases ha
 have hom: ¬Own ρ s.heap.objs.size:=fD S (bC _)
 have hm1:=N1.kp _ _ hm0 hom (λq=>q)
 have kp:∀ b o,s1.heap.get? b=aa o->(aCa s1.heap (.ref s.heap.objs.size) lc.a).get? b=aa o:=λb o e=>Heap.get?_push_of_some _ (Heap.get?_push_of_some _ (Heap.get?_push_of_some _ e))
 refine aEo q2 (wg ⟨λb o e=>kp b o (S1.keep b o e),?_⟩)
 have S2:=S1.extS kp
 have N01:=N0.trans N1
 have z1:(aCb s1.heap lc.a).objs.size=s1.heap.objs.size+1:=Heap.size_push ..
 have z2:(xL s1.heap lc.a).objs.size=s1.heap.objs.size+2:=by rw[Heap.size_push,z1]
 refine wmN (aCe hm (s0:=s) (ρ0:=ρ) (σ:=(ci,0)) hnd hr (N01.trans (.ext (k:=s1.toks) kp)) S2
  (.mk g (rwL z2 (Nat.ne_of_gt (Nat.lt_add_of_pos_right (by decide)))) (by exact rwL z1 (Nat.ne_of_gt (Nat.lt_succ_self _))) (uk (Heap.lt_size hm1))
   ⟨Heap.get?_push_size _ rfl,Heap.get?_push_of_some _ (Heap.get?_push_size _ rfl),⟨_,Heap.get?_push_of_some _ (Heap.get?_push_of_some _ (Heap.get?_push_size _ rfl)),rfl,rfl⟩,kp _ _ hm1⟩) (λb hb=>?_) q) λx s' p=>?_
 ·rcases hb with rfl |rfl |rfl
  ·exact cV N01 S1 (rwL z2 (Heap.get?_none_of_le (pu _ _)))
  ·exact cV N01 S1 (bC _)
  ·exact⟨bC _,N1.own hm0 hom,d5 S (bC _)⟩
 ·obtain⟨S',N',r',hv,q⟩:=p
  subst hv
  exact⟨S',N',r',q⟩
theorem Yn0:m<=n->¬(m<=p)->((2:Nat)*q)<=(p+m)->(p+m)<((2:Nat)*(q+(1:Nat)))->q<n:=Z.R 0x2001042a41f6b00007dac00be07da2a000007a2a02b0be007a2aa00107a68007 [] [m,n,p,q]
theorem Yn1:(m-n)<=(p+(1:Nat))->((2:Nat)*q)<=(n+m)->(n+m)<((2:Nat)*(q+(1:Nat)))->(m-(q+(1:Nat)))<=p:=Z.R 0x100000000008100004100000000104100102a07dac0a01001f6b002f81f68a400001e8a40ac2f801c1f6a029a01007 [] [m,n,p,q]
theorem Yn2: ¬(m<=n)->((2:Nat)*p)<=(n+m)->(n+m)<((2:Nat)*(p+(1:Nat)))->(p+(1:Nat))<=m:=Z.R 0x80041a01f6a00007da800be07da29000007a2902a0be007a29a00107 [] [m,n,p]
theorem Yn3:m<=n->¬(m<=p)->((2:Nat)*q)<=(p+m)->(p+m)<((2:Nat)*(q+(1:Nat)))->¬(n=q):=Z.R 0x800410a8ae904407dac00be07da2a000007a2a02b0be007a2aa00107a68007 [] [m,n,p,q]
theorem Yn4:m<n->p<=m->¬(p<=q)->((2:Nat)*r)<=(q+p)->(q+p)<((2:Nat)*(r+(1:Nat)))->r<n:=Z.R 0x20010420a907db00001f6c002f81f6aac00001eaac0b02f801e8aea0041e8a801e907da00007 [] [m,n,p,q,r]
theorem Yn5:(m-n)<=(p+(1:Nat))->((2:Nat)*q)<=(n+m)->(n+m)<((2:Nat)*(q+(1:Nat)))->(q-n)<=p:=Z.R 0x40000000080001001040000000080001040aa9ac1001f6b002f81f68a400001e8a40ac2f801c1f6a029a01007 [] [m,n,p,q]
theorem Yn6:m<=n->¬(m<=p)->((2:Nat)*q)<=(p+m)->(p+m)<((2:Nat)*(q+(1:Nat)))->q<=n:=Z.R 0x800410a9ac007dac00be07da2a000007a2a02b0be007a2aa00107a68007 [] [m,n,p,q]
theorem Yn7: ¬(m<=n)->((2:Nat)*p)<=(n+m)->(n+m)<((2:Nat)*(p+(1:Nat)))->n<=p:=Z.R 0x204006aa4007da800be07da29000007a2902a0be007a29a00107 [] [m,n,p]
theorem Yn8:m<=n->¬(m<=p)->n=q->((2:Nat)*q)<=(p+m)->(p+m)<((2:Nat)*(q+(1:Nat)))->fh:=Z.R 0x400810a807dac00be07da2a000007a2a02b0be007ae9047a2aa00107a68007 [] [m,n,p,q]
def PW(n:Nat)(c:Nat->Nat->fq):KasT α->(α->Prop)->Prop
 | .ret a,Q=>Q a
 | .ask i j k,Q=>i<n/\j<n/\i≠j/\PW n c (k (c i j)) Q
theorem PW.bind{Q:β->Prop}:∀ {t:KasT α},PW n c t (λa=>PW n c (f a) Q)->PW n c (t.bind f) Q
 | .ret _,h=>h
 | .ask i j k,⟨h1,h2,h0,h3⟩=>⟨h1,h2,h0,PW.bind h3⟩
theorem PW.mono{Q':α->Prop}(hq:∀ a,Q a->Q' a):∀ {t:KasT α},PW n c t Q->PW n c t Q'
 | .ret _,h=>hq _ h
 | .ask i j k,⟨h1,h2,h0,h3⟩=>⟨h1,h2,h0,PW.mono hq h3⟩
theorem PW.wp{R:α->aw->Prop}{I:aw->Prop}(hc:∀ i j D s,i<n->j<n->i≠j->I s->(∀ s',I s'->D (c i j) s')->cmp i j D s)(hq:∀ a s,Q a->I s->R a s):∀ {t:KasT α},PW n c t Q->∀ s,I s->t.kasWp cmp R s
 | .ret _,h,s,hs=>hq _ s h hs
 | .ask i j k,⟨h1,h2,h0,h3⟩,s,hs=>hc i j _ s h1 h2 h0 hs λs' hs'=>PW.wp hc hq h3 s' hs'
structure Ord(n:Nat)(c:Nat->Nat->fq):Prop where
 tr:∀ x y z,c x y=ak->c y z=ak->c x z=ak
 tot:∀ x y,x<n->y<n->x≠y->c x y=ak\/c y x=ak
 asy:∀ x y,c x y=ak->c y x=am
def gt(p:om Nat)(i:Nat):Nat:=p.getD i 0
structure Pm(n:Nat)(p:om Nat):Prop where
 pm:p.Perm (List.toArray (List.range n))
theorem Pm.tl(P:Pm n p):p.toList.Perm (List.range n):=P.pm.toList
theorem Pm.sz(P:Pm n p):p.size=n:=by
 have:=P.tl.length_eq
 rw[ri]at this
 exact this
theorem Pm.at(P:Pm n p)(h:i<n):∃ h':i<p.toList.length,gt p i=p.toList[i]:=by
 have h':i<p.size:=P.sz.symm▸h
 refine⟨h',?_⟩
 unfold gt
 refine rwL Array.getD_eq_getD_getElem? (rwL (Array.getElem?_eq_getElem h') ?_);rfl
theorem Pm.lt(P:Pm n p)(i:Nat)(h:i<n):gt p i<n:=by
 refine xE (P.at h) λh' e=>?_
 exact rwL e (List.mem_range.mp (P.tl.mem_iff.mp (List.getElem_mem h')))
theorem Pm.inj(P:Pm n p)(i j:Nat)(hi:i<n)(hj:j<n)(h:gt p i=gt p j):i=j:=by
 refine xE (P.at hi) λh1 e1=>?_
 obtain⟨h2,e2⟩:=P.at hj
 rw[e1,e2]at h
 exact(List.getElem_inj (P.tl.nodup_iff.mpr List.nodup_range)).mp h
def Sd(c:Nat->Nat->fq)(p:om Nat)(m:Nat):Prop:=∀ i j,i<j->j<m->c (gt p i) (gt p j)=ak
def Ds(c:Nat->Nat->fq)(p:om Nat)(m:Nat):Prop:=∀ i j,i<j->j<m->c (gt p j) (gt p i)=ak
theorem Sd.snoc(O:Ord n c)(h:Sd c p k)(h1:1<=k)(hc:c (gt p (k-1)) (gt p k)=ak):Sd c p (k+1):=by
 intro i j hij hj
 rcases uj j k with q |q
 ·exact h i j hij q
 ·obtain rfl:j=k:=A63 hj q
  rcases uj i (j-1) with z |z
  ·exact O.tr _ _ _ (h i (j-1) z (A64 z)) hc
  ·obtain rfl:i=j-1:=A65 hij z
   exact hc
theorem Ds.snoc(O:Ord n c)(h:Ds c p k)(h1:1<=k)(hc:c (gt p k) (gt p (k-1))=ak):Ds c p (k+1):=by
 intro i j hij hj
 rcases uj j k with q |q
 ·exact h i j hij q
 ·obtain rfl:j=k:=A63 hj q
  rcases uj i (j-1) with z |z
  ·exact O.tr _ _ _ hc (h i (j-1) z (A64 z))
  ·obtain rfl:i=j-1:=A65 hij z
   exact hc
theorem other(O:Ord n c)(P:Pm n p)(hi:i<n)(hj:j<n)(hij:i≠j)(h:c (gt p i) (gt p j)=am):c (gt p j) (gt p i)=ak:=by
 rcases O.tot _ _ (P.lt i hi) (P.lt j hj) (λq=>hij (P.inj i j hi hj q)) with q |q
 ·rw[q]at h;cases h
 ·exact q
theorem wP(O:Ord n c)(P:Pm n p):∀ (f k:Nat),1<=k->k+f<=n->Sd c p k->PW n c (kas_asc p f k) (λm=>k<=m/\m<=k+f/\Sd c p m/\(m<k+f->c (gt p m) (gt p (m-1))=ak))
 |0,k,h1,h2,h=>⟨Nat.le_refl _,Nat.le_refl _,h,λq=>bw q (Nat.lt_irrefl _)⟩
 |f+1,k,h1,h2,h=>by
  refine⟨P.lt k (A66 h2),P.lt (k-1) (A67 h2),λq=>by have:=P.inj k (k-1) (A66 h2) (A67 h2) q;exact(A68 h1 this).elim,?_⟩
  cases hc:c (p.getD k 0) (p.getD (k-1) 0) with
  |true=>exact⟨Nat.le_refl _,A69,h,λg=>hc⟩
  |false=>
   refine(?_:PW n c (if am=ak then _ else kas_asc p f (k+1)) _)
   exact rwL (bc (by decide)) ((wP O P f (k+1) A70 (A71 h2) (h.snoc O h1 (other O P (A66 h2) (A67 h2) (A72 h1) hc))).mono λm ⟨a,b,d,e⟩=>⟨A32 a,A73 b,d,λq=>e (A74 q)⟩)
theorem yK(O:Ord n c)(P:Pm n p):∀ (f k:Nat),1<=k->k+f<=n->Ds c p k->PW n c (kas_desc f p k 0) (λr=>r.1=p/\r.2.2=0/\k<=r.2.1/\r.2.1<=k+f/\Ds c p r.2.1)
 |0,k,h1,h2,h=>⟨rfl,rfl,Nat.le_refl _,Nat.le_refl _,h⟩
 |f+1,k,h1,h2,h=>by
  refine⟨P.lt k (A66 h2),P.lt (k-1) (A67 h2),λq=>by have:=P.inj k (k-1) (A66 h2) (A67 h2) q;exact(A68 h1 this).elim,?_⟩
  cases hc:c (p.getD k 0) (p.getD (k-1) 0) with
  |true=>
   refine(?_:PW n c (if ak=ak then(if 0>0 then _ else kas_desc f p (k+1) 0) else _) _)
   exact rwL (bo rfl) (rwL (bc A75) ((yK O P f (k+1) A70 (A71 h2) (h.snoc O h1 hc)).mono λr ⟨a,b,d,e,g⟩=>⟨a,b,A32 d,A73 e,g⟩))
  |false=>
   have h3:=other O P (i:=k) (j:=k-1) (A66 h2) (A67 h2) (A72 h1) hc
   refine(?_:PW n c (if am=ak then _ else KasT.ask (p.getD (k-1) 0) (p.getD k 0) λd=>if d=ak then .ret (p,k,0) else kas_desc f p (k+1) (0+1)) _)
   refine rwL (bc (by decide)) ⟨P.lt (k-1) (A67 h2),P.lt k (A66 h2),λq=>by have:=P.inj (k-1) k (A67 h2) (A66 h2) q;exact(A76 h1 this).elim,?_⟩
   have h3':c (p.getD (k-1) 0) (p.getD k 0)=ak:=h3
   refine rwL h3' ?_
   show PW n c (KasT.ret (p,k,0)) _
   exact⟨rfl,rfl,Nat.le_refl _,(A69:k<=k+(f+1)),h⟩
theorem uF(h:p[i]? =q[j]?):gt p i=gt q j:=by
 unfold gt
 exact rwL Array.getD_eq_getD_getElem? (rwL Array.getD_eq_getD_getElem? (rwL h rfl))
set_option tactic.hygienic true in
theorem aC3(hm:m<=p.size):gt (kas_rev p 0 m) k=if k<m then gt p (m-1-k) else gt p k:=by
 have h:=getElem?_mirror_all (xs:=p) (i:=0) (j:=m) hm k
 split
 ·rename_i q
  rw[bo ⟨jo _,q⟩]at h
  refine uF (h.trans ?_)
  congr 1
  exact A77
 ·rename_i q
  rw[bc (λz=>q z.2)]at h
  exact uF h
theorem Pm.rev(P:Pm n p):Pm n (kas_rev p 0 m):=⟨(mirror_perm _ _ _ _).trans P.pm⟩
theorem Ds.rev(P:Pm n p)(hm:m<=n)(h:Ds c p m):Sd c (kas_rev p 0 m) m:=by
 intro i j hij hj
 exact rwL (aC3 (by rw[P.sz];exact hm)) (rwL (aC3 (by rw[P.sz];exact hm)) (rwL (bo (A53 hij hj)) (rwL (bo hj) (h _ _ (A78 hij hj) (A79 hj)))))
set_option tactic.hygienic true in
theorem aEd(O:Ord n c)(P:Pm n p)(hn:1<=n):PW n c (kas_count n p) (λr=>Pm n r.2/\1<=r.1/\r.1<=n/\Sd c r.2 r.1):=by
 unfold kas_count
 refine PW.bind ((wP O P (n-1) 1 (Nat.le_refl _) (A80 hn) (λi j h1 h2=>(A81 h1 h2).elim)).mono λm ⟨a,b,d,e⟩=>?_)
 split
 ·rename_i hm
  exact⟨P,a,A82 hn b,d⟩
 ·rename_i hm
  have hm':m≠n:=by simpa using hm
  split
  ·rename_i h1
   refine⟨P.lt 0 (A83 b h1),P.lt (m-1) (A84 b h1),λq=>by have:=P.inj 0 (m-1) (A83 b h1) (A84 b h1) q;exact(A85 h1 this).elim,?_⟩
   have:c (p.getD 0 0) (p.getD (m-1) 0)=ak:=d 0 (m-1) (A86 h1) (A87 h1)
   refine rwL this ?_
   show PW n c (KasT.ret (m,p)) _
   exact⟨P,a,A88 b h1,d⟩
  ·rename_i h1
   obtain rfl:m=1:=A89 a h1
   have hd:Ds c p 2:=by
    intro i j h2 h3
    obtain rfl:j=1:=A90 h2 h3
    obtain rfl:i=0:=A91 h2
    exact e (A92 hn hm')
   unfold kas_descPart
   refine PW.bind ((yK O P (n-(1+1)) 2 A93 (A94 hn hm') hd).mono λr ⟨r1,r2,r3,r4,r5⟩=>(rwL (bc (A95 r2)) ?_))
   unfold kas_tail3
   refine rwL r1 ?_
   have hrn:r.2.1<=n:=A96 hn hm' r4
   exact PW.bind ((wP O P.rev (n-r.2.1) r.2.1 (A97 r3) (A98 hrn) (r5.rev P hrn)).mono λm' ⟨a',b',d',e'⟩=>⟨P.rev,(A99 r3 a':1<=m'),(A100 hrn b':m'<=n),d'⟩)
set_option tactic.hygienic true in
theorem oC(O:Ord n c)(P:Pm n p)(hk:k<n)(hs:Sd c p k):∀ (f l r:Nat),l<=r->r<=k->r-l<=f->(∀ i,i<l->c (gt p i) (gt p k)=ak)->(∀ i,r<=i->i<k->c (gt p k) (gt p i)=ak)-> PW n c (yx p k f l r) (λx=>x<=k/\(∀ i,i<x->c (gt p i) (gt p k)=ak)/\(∀ i,x<=i->i<k->c (gt p k) (gt p i)=ak))
 |0,l,r,h1,h2,h3,h4,h5=>⟨A101 h1 h2,h4,λi hi=>h5 i (A102 h3 hi)⟩
 |f+1,l,r,h1,h2,h3,h4,h5=>by
  unfold yx
  split
  ·exact⟨A101 h1 h2,h4,λi hi=>h5 i (by omega)⟩
  ·rename_i hlr
   refine⟨P.lt k hk,P.lt ((l+r)/2) (Yn4 hk h2 hlr (mw _ 2) (jc _ (by decide))),λq=>by have:=P.inj k ((l+r)/2) hk (Yn4 hk h2 hlr (mw _ 2) (jc _ (by decide))) q;exact Yn8 h2 hlr this (mw _ 2) (jc _ (by decide)),?_⟩
   cases hc:c (p.getD k 0) (p.getD ((l+r)/2) 0) with
   |true=>
    refine(?_:PW n c (yx p k f l ((l+r)/2)) _)
    refine oC O P hk hs f l ((l+r)/2) (Yn7 hlr (mw _ 2) (jc _ (by decide))) (Yn6 h2 hlr (mw _ 2) (jc _ (by decide))) (Yn5 h3 (mw _ 2) (jc _ (by decide))) h4 λi hi hik=>?_
    rcases Nat.eq_or_lt_of_le hi with q |q
    ·exact rwR q hc
    ·exact O.tr _ _ _ hc (hs _ i q hik)
   |false=>
    refine(?_:PW n c (yx p k f ((l+r)/2+1) r) _)
    have h6:=other O P (i:=k) (j:=(l+r)/2) hk (Yn4 hk h2 hlr (mw _ 2) (jc _ (by decide))) (Yn3 h2 hlr (mw _ 2) (jc _ (by decide))) hc
    refine oC O P hk hs f ((l+r)/2+1) r (Yn2 hlr (mw _ 2) (jc _ (by decide))) h2 (Yn1 h3 (mw _ 2) (jc _ (by decide))) (λi hi=>?_) h5
    rcases Nat.eq_or_lt_of_le (Nat.le_of_lt_succ hi) with q |q
    ·exact rwL q h6
    ·exact O.tr _ _ _ (hs i _ q (Yn0 h2 hlr (mw _ 2) (jc _ (by decide)))) h6
set_option tactic.hygienic true in
theorem aC4(hk:k<p.size)(hl:l<=k):gt (bubble p k (k-l)) i=if i=l then gt p k else if l<i/\i<=k then gt p (i-1) else gt p i:=by
 have h:=getElem?_bubble (xs:=p) (src:=k) hk (k-l) A103 i
 have e:k-(k-l)=l:=A104 hl
 rw[e]at h
 split
 ·rename_i q;rw[bo q]at h;exact uF h
 ·rename_i q
  rw[bc q]at h
  split
  ·rename_i q2;rw[bo q2]at h;exact uF h
  ·rename_i q2;rw[bc q2]at h;exact uF h
theorem aEu(O:Ord n c):∀ (f:Nat){p:om Nat} (k:Nat),Pm n p->Sd c p k->k+f=n->PW n c (kas_bin f p k) (λq=>Pm n q/\Sd c q n)
 |0,p,k,P,hs,he=>by
  obtain rfl:k=n:=A105 he
  exact⟨P,hs⟩
 |f+1,p,k,P,hs,he=>by
  unfold kas_bin
  have hk:k<n:=A106 he
  refine PW.bind ((oC O P hk hs k 0 k (jo _) (Nat.le_refl _) A107 (λi hi=>bw hi (Nat.not_lt_zero _)) (λi h1 h2=>bw h1 (A108 h2))).mono λl ⟨a,b,d⟩=>?_)
  have hks:k<p.size:=rwL P.sz hk
  refine aEu O f (k+1) ⟨(bubble_perm _ _ _).trans P.pm⟩ (λi j hij hj=>?_) (A109 he)
  ·refine rwL (aC4 hks a) (rwL (aC4 hks a) ?_)
   by_cases h1:i=l
   ·exact rwL (bo h1) (rwL (bc (A110 hij h1)) (rwL (bo (A111 hij hj h1)) (d _ (A112 hij h1) (A113 hij hj))))
   ·rw[bc h1]
    by_cases h2:l<i/\i<=k
    ·exact rwL (bo h2) (rwL (bc (A114 hij h2)) (rwL (bo (A115 hij hj h2)) (hs _ _ (A116 hij h2) (A117 hj h2))))
    ·rw[bc h2]
     by_cases h3:j=l
     ·exact rwL (bo h3) (b _ (A118 hij h3))
     ·rw[bc h3]
      by_cases h4:l<j/\j<=k
      ·refine rwL (bo h4) ?_
       have:i<l:=A119 hij h1 h2 h4
       exact hs _ _ (A120 h4 this) (A121 h4)
      ·exact rwL (bc h4) (hs _ _ hij (A122 a hj h3 h4))
set_option tactic.hygienic true in
theorem aFy(O:Ord n c)(hn:1<=n):PW n c (kas_sort n) (λp=>Pm n p/\Sd c p n):=by
 unfold kas_sort
 have P:Pm n (List.toArray (List.range n)):=⟨Array.Perm.refl _⟩
 refine PW.bind ((aEd O P hn).mono λr ⟨a,b,d,e⟩=>?_)
 split
 ·rename_i h
  have hm:max r.1 1=r.1:=A123 b
  exact rwL hm (aEu O _ r.1 a e (A124 h))
 ·rename_i h
  have:r.1=n:=A125 d h
  rw[this]at e
  exact⟨a,e⟩
def wR{α:Type}(key:α->Int)(l:ae α):Prop:=l.Pairwise λa b=>key a<key b
theorem lM:∀ {a b:ae α},a.Perm b->wR key a->wR key b->a=b
 | [],_,p,_,_=>p.nil_eq
 |x::r,b,p,ha,hb=>by
  cases b with
  |nil=>exact bw p.length_eq (by simp)
  |cons y t=>
   have hx:x∈y::t:=p.mem_iff.mp (.head _)
   have hy:y∈x::r:=p.mem_iff.mpr (.head _)
   have e:x=y:=by
    rcases cy.mp hx with h |h
    ·exact h
    ·rcases cy.mp hy with h' |h'
     ·exact h'.symm
     ·have a1:=(ip.mp ha).1 y h'
      have a2:=(ip.mp hb).1 x h
      exact(A126 a1 a2).elim
   subst e
   exact rwL (lM (List.Perm.cons_inv p) (ip.mp ha).2 (ip.mp hb).2) rfl
def ins{α:Type}(key:α->Int)(x:α):ae α->ae α
 | []=>[x]
 |y::r=>if key x<key y then x::y::r else y::ins key x r
def isort(key:α->Int):ae α->ae α
 | []=>[]
 |x::r=>ins key x (isort key r)
theorem oS(key:α->Int)(x:α):∀ l:ae α,(ins key x l).Perm (x::l)
 | []=>.refl _
 |y::r=>by
  unfold ins
  split
  ·exact .refl _
  ·exact((oS key x r).cons y).trans (.swap x y r)
theorem bW(key:α->Int):∀ l:ae α,(isort key l).Perm l
 | []=>.refl _
 |x::r=>(oS key x _).trans ((bW key r).cons x)
set_option tactic.hygienic true in
theorem aCx:∀ {l:ae α},wR key l->(∀ y∈l,key y≠key x)->wR key (ins key x l)
 | [],_,_=>jg _ _
 |y::r,h,hn=>by
  unfold ins
  have h1:=ip.mp h
  split
  ·rename_i hlt
   refine ip.mpr ⟨λz hz=>?_,h⟩
   rcases cy.mp hz with rfl |hz
   ·exact hlt
   ·have:=h1.1 z hz;exact A52 hlt this
  ·rename_i hlt
   have hne:=hn y (.head _)
   refine ip.mpr ⟨λz hz=>?_,aCx h1.2 λz hz=>hn z (.tail _ hz)⟩
   rcases cy.mp ((oS key x r).mem_iff.mp hz) with rfl |hz
   ·exact A127 hlt hne
   ·exact h1.1 z hz
theorem lA:∀ {l:ae α},l.Pairwise (λa b=>key a≠key b)->wR key (isort key l)
 | [],_=>.nil
 |x::r,h=>by
  have h1:=ip.mp h
  exact aCx (lA h1.2) λy hy=>(h1.1 y ((bW key r).mem_iff.mp hy)).symm
theorem out_eq(d:α)(key:α->Int)(hd:vs.Pairwise λa b=>key a≠key b)(P:Pm vs.length p)(hs:Sd (λa b=>decide (key (vs.getD a d)<key (vs.getD b d))) p vs.length):p.toList.map (λi=>vs.getD i d)=isort key vs:=by
 refine lM (key:=key) ?_ ?_ (lA hd)
 ·have h1:p.toList.Perm (List.range vs.length):=by simpa using P.pm.toList
  have h2:(List.range vs.length).map (λi=>vs.getD i d)=vs:=by
   refine List.ext_getElem (by simp) λi h1 h2=>?_
   simp at h1
   simp [h1]
  have h3:=h1.map (λi=>vs.getD i d)
  rw[h2]at h3
  exact h3.trans (bW key vs).symm
 ·unfold wR
  rw[List.pairwise_map,List.pairwise_iff_getElem]
  intro i j hi hj hij
  have hz:p.size=vs.length:=P.sz
  simp only[Array.length_toList]at hi hj
  have:=hs i j hij (A118 hj hz)
  have e1:gt p i=p[i]:=by unfold gt;simp [Array.getD,hi]
  have e2:gt p j=p[j]:=by unfold gt;simp [Array.getD,hj]
  rw[e1,e2]at this
  simpa using this
theorem aAq:qk "tuple.__lt__" =aa .slot:=by decide+kernel
theorem yZ:splitId "tuple.__lt__" =aa ("tuple","__lt__"):=by decide+kernel
theorem y4:ze "tuple.__lt__" =ak:=by decide+kernel
theorem aAr(a b:bx):sx "tuple.__lt__" ⟨[a,b],[]⟩:=by unfold sx;kernel_rfl
theorem y5:qe qj "tuple.__lt__" =aa Builtin.«tuple.__lt__»:=nh ⋯
theorem aAp:Slot "tuple" "__lt__" "tuple.__lt__" :=.of (owner:="tuple") (n:="__lt__") (by rw[fg,dk];kernel_rfl) (by decide+kernel) (by decide+kernel) (by decide+kernel)
  (by first |exact .inl (by decide+kernel) |exact .inr (by decide+kernel)) (by rw[je];kernel_rfl)
theorem lt_mat{K:vi}(hK:KMx C K)(hu:A.units<cLine)(X:K.In s.heap)(hx:s.heap.get? x=aa (rJ (.int i t) x2 x3 n dd))(hy:s.heap.get? y=aa (rJ (.int j u) y2 y3 m de))(hij:i≠j)(h:Q (decide (i<j)) s):ax C.M A (keyLt' xf (.ref x) (.ref y)) Q E s:=by
 have tx:mx C.M s.heap (tw (.ref x)) (.ref aG):=(Looks.ld hx).andThen .now
 have ty:mx C.M s.heap (tw (.ref y)) (.ref aG):=(Looks.ld hy).andThen .now
 have L1:=mo (M:=C.M) X hK.lt
 have isX:mx C.M s.heap (td (.ref x) (.type "tuple")) ak:=tx.andThen (xc X hK.tup)
 have isY:mx C.M s.heap (td (.ref y) (.type "tuple")) ak:=ty.andThen (xc X hK.tup)
 have bI:=Looks.of_pure (M:=C.M) (h:=s.heap) (aAp.bind (.ref x))
 rw[keyLt'_oneType,oneLt'_eq]
 simp only[xk]
 refine zzB (wpAny_cRoomFor hu ?_)
 have fin:ax C.M A (call (.builtin "tuple.__lt__") [.ref x,.ref y]) (λv s'=>v= .bool (decide (i<j))/\s'=s) E s:=by
  refine jy (kh y4 y5 (vw aAq yZ isX (aAr _ _) ?_))
  show ax _ _ (do
   if !(<-td (.ref y) (.type "tuple")) then return<-ret .notImplemented
   let xs<-Builtin.Tuple.tupleItemsOf (.ref x)
   let ys<-Builtin.Tuple.tupleItemsOf (.ref y)
   for (x,y) in xs.toList.zip ys.toList do
    if !(<-eqBool x y) then
     rule "tuple.compare.by-the-first-pair-that-differs";return<-ret (<-richCompare .Lt x y)
   ret (Builtin.Tuple.tupleCompareSizes .Lt xs.size ys.size)) _ _ s
  refine zzB (isY.here (rwL (bc (by decide)) ?_))
  unfold Builtin.Tuple.tupleItemsOf
  refine zzB (zzB (jb hx rfl (zzP (zzB (zzB (jb hy rfl (zzP (?_:ax _ _ (forIn [(Value.int i t,Value.int j u),(x2,y2),(x3,y3)] _ _ >>=_) _ _ s))))))))
  rw[oe]
  refine zzB (zzB (zzB (wpAny_eqBool_int (rwL (bo (by simpa using hij)) (zzB (sy (zzB (?_:ax _ _ (jx .Lt (.int i t) (.int j u)) _ _ s))))))))
  exact lt_int (zzB (zzP (zzP (zzP (zzP ⟨rfl,rfl⟩)))))
 refine zzB ?_
 delta callSpecialIfBound? bindSpecialIfBound?;dsimp only
 refine bz (zzB (zzB (zzB (tx.here (L1.here (zzB (wpAny_askSetting (ifb bI (zzB (ir fin ?_ λq q z=>z))))))))))
 rintro v s' ⟨rfl,rfl⟩
 exact zzP (wpAny_truthy_bool h)
def dZ:V->Int | .mat i _ _=>i |_=>0
def xO:V->fq | .mat _ _ _=>ak |_=>am
def okSort(vs:ae V):Prop:=(∀ v∈vs,xO v=ak)/\(vs.Pairwise λa b=>dZ a≠dZ b)/\vs.length<64
theorem VRs.map_getD(rs:VRs ρ h us vs):∀ idx:ae Nat,(∀ i∈idx,i<us.length)->VRs ρ h (idx.map λi=>us.getD i Value.none) (idx.map λi=>vs.getD i V.none)
 | [],_=>.nil
 |i::idx,hi=>by
  have hlt:=hi i (.head _)
  have hlt':i<vs.length:=rwR rs.length hlt
  refine xEA (rs.get (i:=i) (v:=vs[i]) (df hlt')) λu hu ru=>.cons ?_ (VRs.map_getD rs idx λj hj=>hi j (.tail _ hj))
  have e1:us.getD i Value.none=u:=by refine rwL dc (rwL hu ?_);rfl
  have e2:vs.getD i V.none=vs[i]:=by refine rwL dc (rwL (df hlt') ?_);rfl
  exact(rwL e1 (rwL e2 ru):VR ρ h (us.getD i Value.none) (vs.getD i V.none))
theorem uC:∀ {vs:ae α},vs.length<2->isort kf vs=vs
 | [],_=>rfl
 | [v],_=>rfl
 |_::_::t,h=>bw h (Nat.not_lt.mpr (ph 2 t.length))
theorem zY(xs:om bx):(arrOf (SortSt.mk' general' (xs.zip xs) #[] 7 none)).map (·.2)=xs:=by
 show(xs.zip xs).map (·.2)=xs
 apply Array.toList_inj.mp
 exact rwL Array.toList_map (rwL Array.toList_zip (List.map_snd_zip (Nat.le_refl _)))
inductive MatQ(h:pa):bx->Int->Prop
 |mk {a:dv}{i:Int}{t:Tok}{x2 x3:bx}{n:Nat}{dd:aj dv} (g:h.get? a=aa (rJ (.int i t) x2 x3 n dd)):MatQ h (.ref a) i
theorem mat_q(r:VR ρ h u v)(hm:xO v=ak):MatQ h u (dZ v):=by
 have r:=r.inv
 cases v with
 |mat i j k=>
  obtain⟨a,n,t,u',w,dd,rfl,g⟩:=r
  exact .mk g
 |_=>exact bw hm Bool.false_ne_true
theorem vT(rs:VRs ρ h us vs)(hm:∀ v∈vs,xO v=ak)(hq:q<vs.length):MatQ h (us.getD q Value.none) (dZ (vs.getD q V.none)):=by
 refine xEA (rs.get (df hq)) λu hu ru=>?_
 have m:=mat_q ru (hm vs[q] (List.getElem_mem hq))
 exact rwL dc (rwL hu (rwL dc (rwL (df hq) m)))
theorem zK(m:MatQ h u k):mx C.M h (tw u) (.ref aG):=by
 cases m with
 |mk g=>exact(Looks.ld g).andThen .now
theorem aGl(rs:VRs ρ h us vs)(hm:∀ v∈vs,xO v=ak):∀ u∈us,mx C.M h (tw u) (.ref aG):=λu hu=>by
 refine xE (iu hu) λq hq=>?_
 have m:=vT rs hm (rs.length▸(List.getElem?_eq_some_iff.mp hq).1:q<vs.length)
 rw[dc,hq]at m
 exact zK m
theorem ord_f{f:Nat->Int}(key:∀ a b,a<b->b<n->f a≠f b):Ord n (λa b=>decide (f a<f b)) where
 tr:=λx y z h1 h2=>ay (Int.lt_trans (dx h1) (dx h2))
 tot:=λx y hx hy hne=>(Nat.lt_or_gt_of_ne hne).elim (λq=>(Int.lt_or_gt_of_ne (key x y q hy)).imp ay ay) λq=>(Int.lt_or_gt_of_ne (key y x q hx)).symm.imp ay ay
 asy:=λx y h=>cc (oy.mpr (oh (dx h)))
theorem aGa{vs:ae V}(hd:vs.Pairwise λa b=>dZ a≠dZ b):Ord vs.length (λa b=>decide (dZ (vs.getD a V.none)<dZ (vs.getD b V.none))):=ord_f (f:=λa=>dZ (vs.getD a V.none)) λa b hab hb=>by
  have:=List.pairwise_iff_getElem.mp hd a b (A53 hab hb) hb hab
  exact rwL dc (rwL dc (rwL (df hb) (rwL (df (A53 hab hb)) this)))
theorem zB{K:vi}(hK:KMx C K)(hu:A.units<cLine)(S:Sim C H ρ s)(hl:ρ[i]? =aa l)(hH:H[i]? =aa (.list vs))(hok:okSort vs)(h:∀ s',Sim C (H.set i (.list (isort dZ vs))) ρ s'->Nx ρ W s ρ s'->P (.done (.ret .none)) s'):ax C.M A (Builtin.«list.sort» ⟨[.ref l.a],[]⟩) P NoE s:=by
 have hilt:i<H.length:=(List.getElem?_eq_some_iff.mp hH).1
 refine j4 (S.objs i _ l hH hl) λg1 g2 xs n hx rs=>?_
 have hlen:=rs.length
 simp only[Array.length_toList]at hlen
 refine xAA hok λhm hd h64=>?_
 have stA:=jN.put (k:=s.toks) S ⟨hl,g1,g2,hH,hx,rs⟩ (λc=> #[]) (vs':=[]) .nil
 have SA:=stA.1
 have NA:Nx ρ W s ρ _:=stA.2 W
 have hHA:(H.set i (.list []))[i]? =aa (.list []):=fe hilt
 rw[list_sort_plain]
 have ho:s.heap.get? l.a=aa (seqObj "list" xs n):=hx
 refine zzB (listItems_at ho rfl (zzB (xz ho rfl ?_ (rwL eu (A48 hlen h64)) (jo _))))
 obtain⟨e1,ho1⟩:∃ e1,(s.heap.update l.a (Obj.mapSeq λc=>(#[]:om bx))).get? l.a=aa (seqObj "list" #[] e1):=⟨_,get?_update_seq ho λc=> #[]⟩
 refine zzB (zc ho1 rfl (zzB (wpAny_newTuple (zzB (wpAny_newList (bz ?_) (jo _))) (by refine rwL eu ?_;simp;exact A48 hlen h64))))
 let h3:pa:=((s.heap.update l.a (Obj.mapSeq λc=>(#[]:om bx))).push (seqObj "tuple" xs.toList.toArray 0)).push (seqObj "list" #[] 0)
 have kp:∀ b o,(s.heap.update l.a (Obj.mapSeq λc=>(#[]:om bx))).get? b=aa o->h3.get? b=aa o:=λb o e=>Heap.get?_push_of_some _ (Heap.get?_push_of_some _ e)
 have S3:Sim C (H.set i (.list [])) ρ {s with heap:=h3}:=SA.extS kp
 have N3:Nx ρ W s ρ {s with heap:=h3}:=NA.trans (.ext (k:=s.toks) kp)
 have ho3:h3.get? l.a=aa (seqObj "list" #[] e1):=kp _ _ ho1
 refine(?_:ax C.M A _ P NoE {s with heap:=h3})
 dsimp only
 have rs3:VRs ρ h3 xs.toList vs:=rs.mono (cx _) N3.imm
 have fin:∀ (out:om bx),VRs ρ h3 out.toList (isort dZ vs)->out.size<=sizeLine/\P (.done (.ret .none)) {s with heap:=h3.update l.a (Obj.mapSeq λc=>out)}:=by
  intro out ro
  refine j4 (S3.objs i _ l hHA hl) λk1 k2 xs3 n3 hx3 rs3'=>?_
  have st:=jN.put (k:=s.toks) S3 ⟨hl,k1,k2,hHA,hx3,rs3'⟩ (λc=>out) ro
  have hol:=ro.length
  have hsl:=(bW dZ vs).length_eq
  simp only[Array.length_toList]at hol
  refine⟨rwL eu (A49 h64 hol hsl),h _ ?_ (N3.trans (st.2 W))⟩
  have:=st.1
  rw[vd]at this
  exact this
 by_cases h2:xs.size<2
 ·refine rwL (bo h2) (rwL (bo h2) (zzB (zzP ?_)))
  rw[StateT.run_pure]
  refine zzB (zzP ?_)
  dsimp only
  have hs:isort dZ vs=vs:=uC (hlen▸h2)
  refine xA (fin xs (rwL hs rs3)) λf1 f2=>zzB (zc (s:= {s with heap:=h3}) ho3 rfl ?_)
  rw[zY]
  refine zzB (xz (s:= {s with heap:=h3}) ho3 rfl ?_ (jo _) (Nat.le_succ_of_le f1))
  simp only[ve,gu,jh]
  exact zzP f2
 ·refine rwL (bc h2) (rwL (bc h2) ?_)
  have hv2:2<=xs.toList.length:=by simp;exact A51 h2
  have X3:K.In h3:=hK.toK.mem.keeps S3.keep
  have hT:=aGl (C:=C) rs3 hm
  have ek:xs=xs.toList.toArray:=by simp
  refine rwL ek (zzB (kas_kind (s:= {s with heap:=h3}) hv2 hT (by decide) (by decide) ?_))
  have est:SortSt.mk' xf (xs.toList.toArray.zip xs.toList.toArray) #[] 7 none=kas_st xf (xo xs.toList) (List.toArray (List.range xs.toList.length)):=by
   have e:=kas_range (xo xs.toList)
   rw[pairsOf_size]at e
   exact(rwL e rfl:SortSt.mk' xf (xo xs.toList) #[] 7 none=SortSt.mk' xf ((List.toArray (List.range xs.toList.length)).map (kas_item (xo xs.toList))) #[] 7 none)
  have hvl:xs.toList.length=vs.length:=by simp [hlen]
  have O:=aGa hd
  have pw:=aFy O (A57 hv2 hvl)
  have ask:(kas_sort xs.toList.length).kasWp (kas_cmp C.prog C.w A xf (xo xs.toList)) (λp s'=>(Pm vs.length p/\Sd (λa b=>decide (dZ (vs.getD a V.none)<dZ (vs.getD b V.none))) p vs.length)/\s'= {s with heap:=h3}) {s with heap:=h3}:=by
   rw[hvl,<-kas_ask_eq]
   refine PW.wp (I:=λs'=>s'= {s with heap:=h3}) (λi j D s' hi hj hij hs' hD=>?_) (λp s' hp hs'=>⟨hp,hs'⟩) pw _ rfl
   subst hs'
   have hne:dZ (vs.getD i V.none)≠dZ (vs.getD j V.none):=λe=>(O.tot i j hi hj hij).elim (λq=>bw e (Int.ne_of_lt (dx q))) λq=>bw e.symm (Int.ne_of_lt (dx q))
   have MA:=vT rs3 hm hi
   have MB:=vT rs3 hm hj
   have hD':=hD _ rfl
   unfold kas_ask
   revert MA MB hne hD'
   generalize xs.toList.getD i Value.none=ua
   generalize xs.toList.getD j Value.none=ub
   generalize dZ (vs.getD i V.none)=ka
   generalize dZ (vs.getD j V.none)=kb
   intro hne MA MB hD'
   cases MA with
   |mk ha=>cases MB with
    |mk hb=>exact lt_mat hK hu X3 ha hb hne hD'
  have run:=kas_runs (E:=NoE) (Q:=λc st' s'=>∃ p:om Nat,p.size=xs.toList.length/\arrOf st'=p.map (kas_item (xo xs.toList))/\failedOf st'=none/\(Pm vs.length p/\Sd (λa b=>decide (dZ (vs.getD a V.none)<dZ (vs.getD b V.none))) p vs.length)/\s'= {s with heap:=h3})
   hv2 (rwL hvl h64) (λp' st' s' a1 a2 a3 a4=>⟨p',a1,a2,a3,a4⟩) ask
  rw[<-est]at run
  refine zzB (ir run ?_ λc c e=>e)
  rintro ⟨⟨⟩,st'⟩ s' ⟨p,hp,har,hf,⟨hP,hS⟩,rfl⟩
  dsimp only
  have hout:(arrOf st').map (·.2)=List.toArray (p.toList.map λi=>xs.toList.getD i Value.none):=by
   apply Array.toList_inj.mp
   refine rwL har (rwL Array.map_map (rwL Array.toList_map ?_))
   exact List.map_congr_left λi c=>by show(kas_item (xo xs.toList) i).2=_;rw[kas_item_eq]
  have hlt:∀ i∈p.toList,i<xs.toList.length:=λi hi=>by
   have h1:p.toList.Perm (List.range vs.length):=by simpa using hP.pm.toList
   have:=h1.mem_iff.mp hi
   refine rwL hvl ?_;simpa using this
  refine xA (fin (List.toArray (p.toList.map λi=>xs.toList.getD i Value.none)) (by
   have:=rs3.map_getD p.toList hlt
   rw[out_eq V.none dZ hd hP hS]at this
   simpa using this)) λf1 f2=>?_
  refine zzB (zc (s:= {s with heap:=h3}) ho3 rfl (rwL hout (zzB (xz (s:= {s with heap:=h3}) ho3 rfl (rwL hf ?_) (jo _) (Nat.le_succ_of_le f1)))))
  simp only[ve,gu,jh]
  exact zzP f2
def aD2(f:EF):EF:=λlo H Q=>f lo H λa H1=>Lf a.rf λi=>Lf (H1[i]?.bind MO.own) λvs=>okSort vs/\Q .none (H1.set i (.list (isort dZ vs)))
theorem EV.sort{K:vi}(hK:KMx C K)(ho:EV C (r+1) env o f)(sh:gK env o "sort" apos pos []):EV C (r+1) env (.Call (.Attribute o "sort" apos) [] [] pos) (aD2 f):=λA s ρ H lo Q hr S F q=>nD ho sh PySem.F.slot_list_sort PySem.F.type_list_sort hr S F q (λv H1 q=>q.elim λi hi q=>q.elim λvs hv c=>⟨i,vs,hi,j6 hv⟩) λ{s1 ρ1 l i vs xs n H1} S1 N1 O q=>by
  refine q.elim λi' hi q=>cyS hi λzq=>?_;subst zq
  refine q.elim λws hw q=>?_
  obtain rfl:=O.same hw
  refine qi (P:=λh=>∀ b o,C.base.heap.get? b=aa o->h.get? b=aa o) rfl c9 (wmN (lI (C:=C) (f:=.builtin "list.sort") (pos:=pos) EVs.nil (env:=env) ⟨.inl rfl,λc=>rfl⟩ hr S1 (F.nx N1) (Q:=λvs H'=>vs= []/\H'=H1) ⟨rfl,rfl⟩) λa s2 p=>?_)
  obtain⟨ps,kw⟩:=a
  obtain⟨hkw,S2,N2,rs,e1,e2⟩:=p
  refine rwL hkw ?_
  subst e1 e2
  cases rs
  refine⟨S2.keep,xEE (iD S2 (aT N2.pre O.g) O.h) λxs n O2=>ii PyProof.Rows.slot_list_sort ⟨_,O2.x,rfl⟩ PyProof.Rows.entry_list_sort (zB hK (W:=noW) ?_ S2 O2.g O.h q.1 λs3 S3 N3=>⟨.none,rfl,S3,(N1.trans N2).trans N3,.none,q.2⟩) (PyProof.Rows.args_list_sort _)⟩
  have:=hr.2.2
  exact(A59 this:A.units+1<9900)
theorem SV.doc(hi:tm env=am)(hs:uf (.Constant (.str x) k p) none pos.line env=pure am):SV C r env (.Expr (.Constant (.str x) k p) pos) (sK .next):=SV.expr (f:=eK (.str x)) EV.str hi hs
theorem OpR.iadd:OpR C r (inplaceOp .Add) zF:=OpR.i2 λq q k=>PySem.AutoIntOps.iadd_0 (k _ _ (.int _ _))
theorem Room.le{a b:Nat}(h:ble a b=ak)(hr:Room b A):Room a A:=by
 have:=jp h
 exact xAA hr λh1 h2 h3=>⟨h1,A60 this h2,A61 this h3⟩
theorem CV.lift{a b:Nat}(h:CV C a f g)(q:ble a b=ak):CV C b f g:=⟨h.keep,λhr S rs e=>h.call (hr.le q) S rs e⟩
noncomputable abbrev AnyT:=∀ {α:Type} (as:om α),(α->fq)->optParam Nat 0->optParam Nat as.size->fq
def anyL:AnyT:=λ{α} as p i j=>match beq i 0,beq j as.size with
 |true,ak=>as.toList.any p
 |_,_=>as.any p i j
theorem aHj: @Eq AnyT @Array.any.{0} @anyL:=by
 funext α as p i j
 unfold anyL
 cases h1:beq i 0 with
 |false=>rfl
 |true=>cases h2:beq j as.size with
  |false=>rfl
  |true=>
   cases Nat.eq_of_beq_eq_true h1
   cases Nat.eq_of_beq_eq_true h2
   exact Array.any_toList.symm
theorem holdT{P:Prop}(_:P):vt:=trivial
set_option maxHeartbeats 1000000 in
@[irreducible] noncomputable def tnG: {G:AnyT->zf // PySem.W.Fast.tw4202317264376624991=G @Array.any.{0}}:=let G:AnyT->zf:=_
 let u:vt:=holdT (P:=PySem.W.Fast.tw4202317264376624991=G @Array.any.{0}) (by
  delta PySem.W.Fast.tw4202317264376624991
  generalize @Array.any.{0}=A
  exact rfl)
 ⟨G,@Eq.refl zf PySem.W.Fast.tw4202317264376624991⟩
open PySem.Sem (wp)
noncomputable abbrev Ev(α:Type):=Pos->BT->Nat->Nat->aj (Except bx α×Pos×BT×Nat×Nat)
noncomputable abbrev Cf:=Ctx->Pos->BT->Nat->Nat->aj (tu×BT×Nat×Nat)
def evS(cf:Cf)(S:Setting)(Γ:Ctx)(t:Sem α):Ev α:=@Sem.rec α (λb=>Ev α)
  (λa p T n k=>aa (.ok a,p,T,n,k))
  (λe p T n k=>aa (.error e,p,T,n,k))
  (λb b b b b=>none)
  (λb b b b b=>none)
  (λb b ih p T n k=>ih () p T n k)
  (λq b ih b T n k=>ih () q T n k)
  (λa b b ih p T n k=>bif blt a n then(T.get a).bind λo=>(alive o).bind λo'=>ih o' p T n k else none)
  (λa b f b ih p T n k=>bif blt a n then(T.get a).bind λo=>(alive o).bind λb=>ih () p (T.set a f) n k else none)
  (λo b ih p T n k=>bif ((T.ins n o).get n).isSome then ih n p (T.ins n o) (n+1) k else none)
  (λa b ih p T n k=>bif blt a n then(T.get a).bind λo=>ih (alive o) p T n k else ih none p T n k)
  (λb b ih p T n k=>ih () p T n k)
  (λb b b b b b b=>none)
  (λb ih p T n k=>ih k p T n (k+1))
  (λb ih p T n k=>ih S p T n k)
  (λb b b b b b b b=>none)
  (λb b b b b b b b=>none)
  (λc h b b b ih p T n k=>(cf (Γ.enter c h p) p T n k).bind λy=>ih y.1 p y.2.1 y.2.2.1 y.2.2.2)
  (λown b ih p T n k=>ih (if own then Γ.own else Γ.handled) p T n k)
  (λb b b b b b b=>none)
  (λb b b b b b b=>none)
  (λb b b b b b b b b=>none)
  (λb b b b b b b b b=>none)
  (λb ih p T n k=>ih ((Γ.code,p)::Γ.below) p T n k)
  (λb b b b b b b=>none)
  (λb ih p T n k=>ih 0 p T n k)
  (λb b b b b b b b b b=>none) t
section
variable(life:Life)(gens:om th)(drawn:Drawn)(os:vx)
def ab(T:BT)(n k:Nat):aw:=⟨vy T n life,gens,drawn,k,os⟩
end
def Ph(life:Life)(gens:om th)(drawn:Drawn)(os:vx){α:Type}(Q:α->Pos->aw->Prop)(E:bx->Pos->aw->Prop):aj (Except bx α×Pos×BT×Nat×Nat)->Prop
 |some (.ok a,p,T,n,k)=>Q a p (ab life gens drawn os T n k)
 |some (.error e,p,T,n,k)=>E e p (ab life gens drawn os T n k)
 |none=>fh
def PhC(life:Life)(gens:om th)(drawn:Drawn)(os:vx)(R:tu->aw->Prop):aj (tu×BT×Nat×Nat)->Prop
 |some (r,T,n,k)=>R r (ab life gens drawn os T n k)
 |none=>fh
theorem ob{β γ:Type}{P:aj γ->Prop}(h0: ¬P none){o:aj β}{f:β->aj γ}(h:P (o.bind f)):∃ y,o=aa y/\P (f y):=by
 cases o with
 |none=>exact bw h h0
 |some y=>exact⟨y,rfl,h⟩
theorem obb{γ:Type}{P:aj γ->Prop}(h0: ¬P none){b:fq}{x:aj γ}(h:P (bif b then x else none)):b=ak/\P x:=by
 cases b with
 |false=>exact bw h h0
 |true=>exact⟨rfl,h⟩
theorem aDx(M:zs)(life:Life)(gens:om th)(drawn:Drawn)(os:vx)(hcf:∀ {Γ p T n k R},PhC life gens drawn os R (cf Γ p T n k)->wpCode M Γ R p (ab life gens drawn os T n k))(t:Sem α):∀ {Q:α->Pos->aw->Prop}{E:bx->Pos->aw->Prop}{p T n k},Ph life gens drawn os Q E (evS cf ⟨M.prog,M.w.params⟩ Γ t p T n k)->wp M Γ t Q E p (ab life gens drawn os T n k):=by
 induction t with
 |pure a=>intro Q E p T n k h;exact h
 |raise e=>intro Q E p T n k h;exact h
 |unsupported |finish |register |choose |os |genState |newGen |resume | «yield» |fork |await=>intro Q E p T n k h;exact h.elim
 |rule _ k ih=>intro Q E p T n k h;exact ih () h
 | «at» q k ih=>intro Q E p T n k h;exact ih () h
 |point _ k ih=>intro Q E p T n k h;exact ih () h
 |ask k ih=>intro Q E p T n k h;exact ih _ h
 |thread k ih=>intro Q E p T n k h;exact ih _ h
 |stack k ih=>intro Q E p T n k h;exact ih _ h
 |handled own k ih=>intro Q E p T n k h;exact ih _ h
 |fresh k ih=>intro Q E p T n k h;exact ih _ h
 |load a part k ih=>
  intro Q E p T n j h
  exact xA (obb (P:=Ph life gens drawn os Q E) id h) λhb h=>xEA (ob (P:=Ph life gens drawn os Q E) id h) λo hg h=>xEA (ob (P:=Ph life gens drawn os Q E) id h) λo' ho h=>⟨o',(abs_get (jp hb) hg).trans ho,ih o' h⟩
 |update a part f k ih=>
  intro Q E p T n j h
  refine xA (obb (P:=Ph life gens drawn os Q E) id h) λhb h=>xEA (ob (P:=Ph life gens drawn os Q E) id h) λo hg h=>xEA (ob (P:=Ph life gens drawn os Q E) id h) λo' ho h=>?_
  have:=ih () h
  unfold ab at this
  rw[absHeap_set hg]at this
  exact⟨by show((vy T n life).get? a).isSome=ak;refine rwL (abs_get (jp hb) hg) (rwL ho ?_);rfl,this⟩
 |alloc o k ih=>
  intro Q E p T n j h
  refine xA (obb (P:=Ph life gens drawn os Q E) id h) λhb h=>?_
  have:=ih n h
  refine(?_:wp M Γ (k (vy T n life).objs.size) _ _ p {ab life gens drawn os T n j with heap:=(vy T n life).push o})
  rw[absHeap_size,<-absHeap_ins hb]
  exact this
 |loadIfAlive a k ih=>
  intro Q E p T n j h
  refine(?_:wp M Γ (k ((vy T n life).get? a)) _ _ p _)
  revert h
  refine(?_:Ph life gens drawn os Q E (bif blt a n then _ else _)->_)
  cases hb:blt a n with
  |false=>
   intro h
   exact rwL (abs_get_none (λq=>by rw[show blt a n=ak from Nat.ble_eq_true_of_le q]at hb;cases hb)) (ih _ h)
  |true=>
   intro h
   exact xEA (ob (P:=Ph life gens drawn os Q E) id h) λo hg h=>rwL (abs_get (jp hb) hg) (ih _ h)
 |call c hd g l k ih=>
  intro Q E p T n j h
  exact hcf (R:=λr s=>wp M Γ (k r) Q E p s) (xEA (ob (P:=Ph life gens drawn os Q E) id h) λy hc h=>rwL hc (ih _ h))
def evC(den:Code->Sem Fin)(S:Setting)(f:Nat):Cf:=@Nat.rec (λq=>Cf) (λq q q q q=>none) (λq rec Γ p T n k=>match evS rec S Γ (den Γ.code) p T n k with
  |some (.ok (.done fl),_,T',n',k')=>aa ((Except.ok fl:tu),T',n',k')
  |some (.ok (.again c),p',T',n',k')=>bif c.quiet then rec (Γ.goto c) p' T' n' k' else none
  |some (.error e,_,T',n',k')=>aa ((Except.error e:tu),T',n',k')
  |none=>none) f
section
variable(M:zs)(life:Life)(gens:om th)(drawn:Drawn)(os:vx)
theorem v8:∀ (f:Nat){Γ R p T n k},PhC life gens drawn os R (evC M.den ⟨M.prog,M.w.params⟩ f Γ p T n k)->wpCode M Γ R p (ab life gens drawn os T n k)
 |0,_,_,_,_,_,_,h=>h.elim
 |f+1,Γ,R,p,T,n,k,h=>by
  rw[wpCode_iff_wp]
  refine aDx M life gens drawn os (λhq=>v8 f hq) (M.den Γ.code) ?_
  revert h
  show PhC life gens drawn os R (match evS (evC M.den ⟨M.prog,M.w.params⟩ f) ⟨M.prog,M.w.params⟩ Γ (M.den Γ.code) p T n k with
   |some (.ok (.done fl),_,T',n',k')=>aa ((Except.ok fl:tu),T',n',k')
   |some (.ok (.again c),p',T',n',k')=>bif c.quiet then evC M.den ⟨M.prog,M.w.params⟩ f (Γ.goto c) p' T' n' k' else none
   |some (.error e,_,T',n',k')=>aa ((Except.error e:tu),T',n',k')
   |none=>none)->_
  cases evS (evC M.den ⟨M.prog,M.w.params⟩ f) ⟨M.prog,M.w.params⟩ Γ (M.den Γ.code) p T n k with
  |none=>exact False.elim
  |some y=>
   obtain⟨x,p₁,T₁,n₁,k₁⟩:=y
   cases x with
   |error e=>exact id
   |ok fin=>cases fin with
    |done fl=>exact id
    |again c=>
     intro h
     revert h
     refine(?_:PhC life gens drawn os R (bif c.quiet then evC M.den ⟨M.prog,M.w.params⟩ f (Γ.goto c) p₁ T₁ n₁ k₁ else none)->_)
     intro h
     exact xA (obb (P:=PhC life gens drawn os R) id h) λhq h=>⟨hq,v8 f h⟩
end
def setDoc(D:Str):jz->jz
 | .ClassDef n b k (.Expr (.Constant (.str _) x q) q'::rest) d t s ts bi st p=>.ClassDef n b k (.Expr (.Constant (.str D) x q) q'::rest) d t s ts bi st p
 |x=>x
def setAt(D:Str):ae jz->ae jz
 |a::b::c::d::e::f::r=>a::b::c::d::e::setDoc D f::r
 |l=>l
def aFi(p:ux)(D:Str):ux:= {p with main:= {p.main with body:=setAt D p.main.body}}
def tn:zf:=tnG.1 @anyL
theorem tn_eq:Builtin.«type.__new__»=tn:=(PySem.W.Fast.te4202317264376624991).trans (tnG.2.trans (ei tnG.1 aHj))
def tbl(id:qt):aj zf:=match PySem.W.S.eqLit (PySem.code "type.__new__") id with
 |true=>aa tn
 |false=>PySem.W.Fast.tw14364793385576792824 id
theorem tbl_eq:qj=tbl:=by
 funext id
 unfold tbl
 have h:=congrFun (PySem.W.S.eqLit_eq "type.__new__" _ rfl) id
 refine rwR h ?_
 by_cases e:id="type.__new__"
 ·subst e
  have:(("type.__new__" :qt)=="type.__new__")=ak:=pt _
  refine rwL this ?_
  show qj "type.__new__" =aa tn
  refine rwR tn_eq ?_
  have:qe qj "type.__new__" =aa Builtin.«type.__new__»:=entryFor_of_fast ⋯
  refine rwL ya ?_
  kernel_rfl
 ·have:(id=="type.__new__")=am:=xq.mpr e
  exact rwL this (rwL ya (rwL PySem.W.Fast.te14364793385576792824 rfl):qj id=PySem.W.Fast.tw14364793385576792824 id)
def den:Code->Sem Fin:=PySem.W.Fast.tw11892475500146522536 tbl
theorem den_eq:yy qj=den:=by
 unfold den
 exact rwL tbl_eq (rwL PySem.W.Fast.te11892475500146522536 rfl)
def btOf(l:ae Obj):BT:=(l.zipIdx).foldl (λt x=>t.ins x.2 x.1) .nil
def bt0(P:dr):BT:=btOf [yo P,boot_o_1 P,zl P,boot_o_3 P,zm P,boot_o_5 P,boot_o_6 P,boot_o_7 P,boot_o_8 P,boot_o_9 P,boot_o_10 P]
def Γ0:Ctx:=⟨.builtin "claim.caller" {},none,none,[],none⟩
def wW(p:ux)(w:ko):=evS (evC den ⟨p,w.params⟩ 3000) ⟨p,w.params⟩ Γ0 (rq p).cur default (bt0 w.params) 11 pz
def Jn(t:Thread):Step->Prop
 | .halt (.done _) _=>through t=ak
 |_=>vt
theorem Jn.ite{a b:Step}(ha:Jn t a)(hb:Jn t b):Jn t (if x=ak then a else b):=by
 cases x with
 |true=>exact ha
 |false=>exact hb
theorem Jn.itp{c:Prop}[Decidable c]{a b:Step}(ha:Jn t a)(hb:Jn t b):Jn t (if c then a else b):=by
 by_cases h:c
 ·exact rwL (bo h) ha
 ·exact rwL (bc h) hb
theorem stepJ{den:Code->Sem Fin}:Jn t (step den p w s t):=by
 obtain⟨heap,gens,drawn,toks,os⟩:=s
 obtain⟨cur,code,pos,stack⟩:=t
 cases cur with
 |pure a=>cases a with
  |again c=>trivial
  |done f=>cases stack with
   |nil=>exact Jn.ite (x:=qg gens) trivial rfl
   |cons fr rest=>cases fr<;>trivial
 |raise e=>cases stack with
  |nil=>exact Jn.ite (x:=qg gens) trivial trivial
  |cons fr rest=>cases fr<;>trivial
 |unsupported _=>trivial
 |finish e=>exact Jn.ite (x:=qg gens) trivial trivial
 |rule _ k=>trivial
 | «at» p k=>trivial
 |load a _ k=>
  delta step;dsimp only
  cases heap.get? a<;>trivial
 |update a _ f k=>exact Jn.ite (x:=(heap.get? a).isSome) trivial trivial
 |alloc o k=>trivial
 |loadIfAlive a k=>trivial
 |point _ k=>trivial
 |register _ _=>trivial
 |fresh k=>trivial
 |ask k=>trivial
 |choose src n k=>exact Jn.itp (c:=n=0) trivial trivial
 |os q _ k=>trivial
 |call c h g l k=>trivial
 |handled own k=>trivial
 |newGen c k=>trivial
 |genState g k=>
  delta step;dsimp only
  cases gens[g]? <;>trivial
 |resume g r l k=>
  delta step;dsimp only
  cases gens[g]? with
  |none=>trivial
  |some x=>cases x with
   |fresh c=>cases r with
    |send v=>cases v<;>trivial
    |throw e=>trivial
   |_=>trivial
 |yield v g0 l kk=>
  delta step;dsimp only
  cases splitAtGen stack<;>trivial
 |stack k=>trivial
 |fork _ _=>trivial
 |thread k=>trivial
 |await _ _ _ _ _=>trivial
theorem rQ{den:Code->Sem Fin}(n:Nat):∀ (s:aw) (t:Thread),runN den p w n s t= .halted (.done f) s'-> ∃ m t',runN den p w m s t= .running s' t'/\through t'=ak:=by
 induction n with
 |zero=>intro s t h;cases h
 |succ n ih=>
  intro s t h
  have hj:=stepJ (den:=den) (p:=p) (w:=w) (s:=s) (t:=t)
  have he:=step_halt_same den p w s s' t (.done f)
  replace h:(match step den p w s t with | .go s' t'=>runN den p w n s' t' | .halt o s'=>.halted o s')=Run.halted (.done f) s':=h
  have hm:∀ m,runN den p w (m+1) s t=(match step den p w s t with | .go s' t'=>runN den p w m s' t' | .halt o s'=>.halted o s'):=λm=>rfl
  revert h hj he hm
  cases step den p w s t with
  |go s₂ t₂=>
   intro hj he h hm
   exact iW (ih s₂ t₂ h) λm t' h1 ht=>⟨m+1,t',(hm m).trans h1,ht⟩
  |halt o s₂=>
   intro hj he h hm
   cases h
   exact⟨0,t,ei (Run.running · t) (he rfl).symm,hj⟩
theorem tC(hz:s.asleep)(hg:S₁.gens= #[])(h:Sem.wp (iz p w) Γ0 (rq p).cur (λfin c s'=>fin= .done (.ret .none)/\s'=S₁) (λc c c=>fh) default s):∃ n t,schedN (yy qj) p w n (.single s (rq p))= .running (.single S₁ t)/\through t=ak:=by
 have h':Sem.wp (iz p w) ⟨.builtin "claim.caller" {},none,none,[],none⟩ (rq p).cur
   (Sem.finPost (iz p w) ⟨.builtin "claim.caller" {},none,none,[],none⟩ λr s'=>(r= .ok (.ret .none)/\s'=S₁)/\qg s'.gens=am)
   (λe c s'=>((.error e:tu)= .ok (.ret .none)/\s'=S₁)/\qg s'.gens=am) default s:=by
  refine Sem.wp_mono _ _ _ ?_ (λc c c x=>x.elim) _ _ h
  rintro fin q s' ⟨rfl,rfl⟩
  exact⟨⟨rfl,rfl⟩,by refine rwL hg ?_;decide+kernel⟩
 obtain⟨n,r,s',hn,rfl,rfl⟩:=(wp_iff_halts (M:=iz p w) _ _ _ _).mp h'
 refine dY (runNI_real (yy qj) p w hn (outcomeOf_ends _)) λs'' hr hf hc=>?_
 have e:=Shared.eq_of_forget_eq hf hg
 refine rwR e (iW (rQ n s (rq p) hr) λm t' hm ht=>?_)
 have hne:∀ k s₂,runN (yy qj) p w k s (rq p)≠ .halted (.unsupported "lifetime:generator-with-cleanup-left-suspended") s₂:=by
  intro k s₂ hk
  have a:=runN_mono (yy qj) p w n k s (rq p) _ _ hr
  have b:=runN_mono (yy qj) p w k n s (rq p) _ s₂ hk
  rw[Nat.add_comm,b]at a
  injection a with a1 _
  cases a1
 exact⟨m,t',(schedN_eq_runN (yy qj) p w s (rq p) hz ⟨hc,hne⟩ m).trans (ei Run.lift hm),ht⟩
def docS(p:ux):Str:=match (p.main.body.drop 5).head? with
 |some (PySem.Stmt.ClassDef _ _ _ body _ _ _ _ _ _ _)=>(docOf body).getD ⟨#[]⟩
 |_=>⟨#[]⟩
noncomputable abbrev pw:ux:=PySem.Challenge.pw_dm0053_03
def docL: {l:ae Char // docS pw=⟨(l.map Char.toNat).toArray⟩}:=⟨_,Fast.ofString_ofList _⟩
def docD:Str:=⟨(docL.1.map Char.toNat).toArray⟩
def pR:ux:=aFi pw docD
theorem p_eq:pw=pR:=by
 unfold pR docD
 refine rwR docL.2 ?_
 kernel_rfl
def stA(i:Nat):jz:=(pw.main.body.drop i).headD (.Pass ⟨0,0,0,0⟩)
def inCls:jz->ae jz
 | .ClassDef _ _ _ body _ _ _ _ _ _ _=>body
 |_=>[]
def stB(i j:Nat):jz:=((inCls (stA i)).drop j).headD (.Pass ⟨0,0,0,0⟩)
def fPar:jz->Arguments
 | .FunctionDef _ a _ _ _ _ _ _ _ _=>a
 |_=>⟨[],[],none,[],[],none,[]⟩
def cX:jz->ae jz
 | .FunctionDef _ _ b _ _ _ _ _ _ _=>b
 |_=>[]
def fSco:jz->vn
 | .FunctionDef _ _ _ _ _ _ s _ _ _=>s
 |_=>default
def uQ(s:jz):Str:=(docOf (cX s)).getD ⟨#[]⟩
noncomputable abbrev kE(P:dr)(n:Str)(t:Nat)(v:bx):yt:=⟨PyData.keyHash P n,.str n t,v⟩
def cOx(x y:Nat->bx)(z:Nat)(n q:Str)(t l a f r e:Nat):Obj:=⟨.type "code",none,.fields #[.str n t,.str q (t+1),.str "/claim/cut.py" (t+2),.int l 0,.int a 0,.int 0 0,.int 0 0,.int f 0,.ref r,.bool ak,.int 181 0,.ref (r+1),.none,x r,y r,.ref (r+z),.int e 0,.int l 0,.str "/claim/cut.py" (e+1)],#[]⟩
def cO:Str->Str->Nat->Nat->Nat->Nat->Nat->Nat->Obj:=cOx (λr=>.ref (r+2)) (λr=>.ref (r+3)) 4
def cO0:Str->Str->Nat->Nat->Nat->Nat->Nat->Nat->Obj:=cOx (λq=>.none) (λq=>.none) 2
def fOx(m:bx)(n q:Str)(s:jz)(d doc:bx)(an:aj Nat)(c:Nat):Obj:=⟨.type "function",none,.func {name:=n,qualname:=q,params:=fPar s,body:=.stmts (cX s),scope:=fSco s,globals:=3,closure:=[],defaults:=d,kwdefaults:=.none,doc:=doc,pyModule:=m,annotations:=an,code:=.ref c,closureTuple:=.none,builtins:=0},#[]⟩
def fO:Str->Str->jz->bx->bx->aj Nat->Nat->Obj:=fOx (.str "cpy313.difflib" 194)
def o3(P:dr):Obj:=⟨(.type "dict"),none,(Data.dict #[kE P "__name__" 165 (.str "law_dm0053_03" 592),kE P "__doc__" 166 .none,kE P "__package__" 167 .none,kE P "__loader__" 168 (.builtin "__main__.__loader__#opaque"),kE P "__spec__" 169 .none,kE P "__annotations__" 170 (.ref 6),kE P "__builtins__" 171 (.ref 4),kE P "__file__" 173 (.str "/claim/cut.py" 172),kE P "__cached__" 174 .none,kE P "_wall" 193 (.ref 21),kE P "_tuplegetter" 252 (.ref 60),kE P "Match" 380 (.ref 135),kE P "_calculate_ratio" 388 (.ref 145),kE P "SequenceMatcher" 591 (.ref 242),kE P "_law_chapters" 599 (.ref 251),kE P "_law_moved" 605 (.ref 256),kE P "_law_kept" 615 (.ref 263),kE P "law" 621 (.ref 268)] 18),#[]⟩
def o81(P:dr):Obj:=cO "__new__" "Match.__new__" 274 29 4 3 76 281
def o82(P:dr):Obj:=fO "__new__" "Match.__new__" (stB 3 4) .none (.str "Create new instance of Match(a, b, size)" 283) none 81
def o88(P:dr):Obj:=cO "_make" "Match._make" 285 33 2 3 83 291
def o89(P:dr):Obj:=fO "_make" "Match._make" (stB 3 5) .none (.str "Make a new Match object from a sequence or iterable" 293) (aa 92) 88
def o91(P:dr):Obj:=⟨(.type "classmethod"),(aa 90),(Data.fields #[(.ref 89),(.bool am)]),#[]⟩
def o134(P:dr):Obj:=⟨(.type "dict"),none,(Data.dict #[kE P "__module__" 260 (.str "cpy313.difflib" 194),kE P "__firstlineno__" 264 (.int 23 263),kE P "__doc__" 266 (.str "Match(a, b, size)" 265),kE P "__slots__" 268 (.ref 73),kE P "_fields" 272 (.ref 74),kE P "_field_defaults" 273 (.ref 75),kE P "__new__" 284 (.ref 136),kE P "_make" 306 (.ref 91),kE P "_replace" 317 (.ref 100),kE P "__replace__" 318 (.ref 100),kE P "__repr__" 326 (.ref 107),kE P "_asdict" 333 (.ref 114),kE P "__getnewargs__" 341 (.ref 121),kE P "__match_args__" 345 (.ref 122),kE P "a" 355 (.ref 124),kE P "b" 365 (.ref 127),kE P "size" 375 (.ref 130),kE P "__static_attributes__" 376 (.ref 132)] 2),#[]⟩
def o135(P:dr):Obj:=⟨(.type "type"),none,(Data.cls {name:="Match",bases:=[(.type "tuple")],mro:=[(.ref 135),(.type "tuple"),(.type "object")],ns:=134,qualname:="Match",hasDict:=am,slotNames:=[],subclasses:=[],abstract:=am,collection:=none,hasDel:=am}),#[aa (.ref 65),none,aa (.str "Match" 253),aa (.str "Match" 261),aa .none,aa (.bool am)]⟩
def o136(P:dr):Obj:=⟨(.type "staticmethod"),none,(Data.fields #[(.ref 82)]),#[]⟩
def o153(P:dr):Obj:=⟨(.type "tuple"),none,(Data.seq #[.none,(.str "" 404),(.str "" 405),(.bool ak)] 0),#[]⟩
def o159(P:dr):Obj:=cO "__init__" "SequenceMatcher.__init__" 406 145 5 3 154 414
def zG(P:dr):Obj:=fO "__init__" "SequenceMatcher.__init__" (stB 5 1) (.ref 153) (.str (uQ (stB 5 1)) 416) none 159
def o166(P:dr):Obj:=cO "set_seqs" "SequenceMatcher.set_seqs" 418 173 3 3 161 424
def o167(P:dr):Obj:=fO "set_seqs" "SequenceMatcher.set_seqs" (stB 5 2) .none (.str (uQ (stB 5 2)) 426) none 166
def o173(P:dr):Obj:=cO "set_seq1" "SequenceMatcher.set_seq1" 428 184 2 3 168 433
def o174(P:dr):Obj:=fO "set_seq1" "SequenceMatcher.set_seq1" (stB 5 3) .none (.str (uQ (stB 5 3)) 435) none 173
def o180(P:dr):Obj:=cO "set_seq2" "SequenceMatcher.set_seq2" 437 209 2 3 175 442
def o181(P:dr):Obj:=fO "set_seq2" "SequenceMatcher.set_seq2" (stB 5 4) .none (.str (uQ (stB 5 4)) 444) none 180
def o187(P:dr):Obj:=cO "__chain_b" "SequenceMatcher.__chain_b" 446 236 1 3 182 461
def o188(P:dr):Obj:=fO "__chain_b" "SequenceMatcher.__chain_b" (stB 5 5) .none .none none 187
def o189(P:dr):Obj:=⟨(.type "tuple"),none,(Data.seq #[(.int 0 464),.none,(.int 0 465),.none] 0),#[]⟩
def o195(P:dr):Obj:=cO "find_longest_match" "SequenceMatcher.find_longest_match" 466 260 5 3 190 488
def o196(P:dr):Obj:=fO "find_longest_match" "SequenceMatcher.find_longest_match" (stB 5 6) (.ref 189) (.str (uQ (stB 5 6)) 490) none 195
def o202(P:dr):Obj:=cO "get_matching_blocks" "SequenceMatcher.get_matching_blocks" 492 335 1 3 197 515
def o203(P:dr):Obj:=fO "get_matching_blocks" "SequenceMatcher.get_matching_blocks" (stB 5 7) .none (.str (uQ (stB 5 7)) 517) none 202
def o209(P:dr):Obj:=cO "get_opcodes" "SequenceMatcher.get_opcodes" 519 383 1 3 204 530
def o210(P:dr):Obj:=fO "get_opcodes" "SequenceMatcher.get_opcodes" (stB 5 8) .none (.str (uQ (stB 5 8)) 532) none 209
def o211(P:dr):Obj:=⟨(.type "tuple"),none,(Data.seq #[(.int 3 534)] 0),#[]⟩
def o217(P:dr):Obj:=cO "get_grouped_opcodes" "SequenceMatcher.get_grouped_opcodes" 535 430 2 35 212 548
def tV(P:dr):Obj:=fO "get_grouped_opcodes" "SequenceMatcher.get_grouped_opcodes" (stB 5 9) (.ref 211) (.str (uQ (stB 5 9)) 550) none 217
def o241(P:dr):Obj:=⟨(.type "dict"),none,(Data.dict #[kE P "__module__" 396 (.str "cpy313.difflib" 194),kE P "__firstlineno__" 400 (.int 70 399),kE P "__doc__" 402 (.str docD 401),kE P "__init__" 417 (.ref 160),kE P "set_seqs" 427 (.ref 167),kE P "set_seq1" 436 (.ref 174),kE P "set_seq2" 445 (.ref 181),kE P "_SequenceMatcher__chain_b" 463 (.ref 188),kE P "find_longest_match" 491 (.ref 196),kE P "get_matching_blocks" 518 (.ref 203),kE P "get_opcodes" 533 (.ref 210),kE P "get_grouped_opcodes" 551 (.ref 218),kE P "ratio" 560 (.ref 225),kE P "quick_ratio" 567 (.ref 232),kE P "real_quick_ratio" 574 (.ref 239),kE P "__static_attributes__" 585 (.ref 240),kE P "__dict__" 587 (.ref 243),kE P "__weakref__" 589 (.ref 244)] 3),#[]⟩
def o242(P:dr):Obj:=⟨(.type "type"),none,(Data.cls {name:="SequenceMatcher",bases:=[(.type "object")],mro:=[(.ref 242),(.type "object")],ns:=241,qualname:="SequenceMatcher",hasDict:=ak,slotNames:=[],subclasses:=[],abstract:=am,collection:=none,hasDel:=am}),#[none,none,aa (.str "SequenceMatcher" 389),aa (.str "SequenceMatcher" 397),aa (.builtin "object.__new__"),aa (.bool ak)]⟩
def o250(P:dr):Obj:=cO0 "_law_chapters" "_law_chapters" 594 505 1 3 247 597
def o251(P:dr):Obj:=fOx (.str "law_dm0053_03" 592) "_law_chapters" "_law_chapters" (stA 7) .none .none none 250
def o255(P:dr):Obj:=cO0 "_law_moved" "_law_moved" 600 521 3 3 252 603
def o256(P:dr):Obj:=fOx (.str "law_dm0053_03" 592) "_law_moved" "_law_moved" (stA 8) .none .none none 255
def o262(P:dr):Obj:=cO "_law_kept" "_law_kept" 606 523 4 3 257 613
def o263(P:dr):Obj:=fOx (.str "law_dm0053_03" 592) "_law_kept" "_law_kept" (stA 9) .none .none none 262
def o267(P:dr):Obj:=cO0 "law" "law" 616 525 1 3 264 619
def o268(P:dr):Obj:=fOx (.str "law_dm0053_03" 592) "law" "law" (stA 10) .none .none none 267
def KL(P:dr):vi:=[(0,yo P),(1,boot_o_1 P),(2,zl P),(4,zm P),(5,boot_o_5 P),(6,boot_o_6 P),(7,boot_o_7 P),(8,boot_o_8 P),(9,boot_o_9 P),(10,boot_o_10 P),(3,o3 P),(81,o81 P),(82,o82 P),(88,o88 P),(89,o89 P),(91,o91 P),(134,o134 P),(135,o135 P),(136,o136 P),(153,o153 P),(159,o159 P),(160,zG P),(166,o166 P),(167,o167 P),(173,o173 P),(174,o174 P),(180,o180 P),(181,o181 P),(187,o187 P),(188,o188 P),(189,o189 P),(195,o195 P),(196,o196 P),(202,o202 P),(203,o203 P),(209,o209 P),(210,o210 P),(211,o211 P),(217,o217 P),(218,tV P),(241,o241 P),(242,o242 P),(250,o250 P),(251,o251 P),(255,o255 P),(256,o256 P),(262,o262 P),(263,o263 P),(267,o267 P),(268,o268 P)]
def endN:Nat:=269
def endK:Nat:=622
def finT(w:ko):BT:=(wW pR w).elim .nil λx=>x.2.2.1
def finP(w:ko):Pos:=(wW pR w).elim default λx=>x.2.1
theorem finEq(w:ko):wW pR w=aa (.ok (.done (.ret .none)),finP w,finT w,endN,endK):=by rfl'
theorem gets(w:ko):((KL w.params).map λx=>((finT w).get x.1).bind alive)=(KL w.params).map λx=>aa x.2:=by rfl'
theorem vN(r:ReadsW R cl h v (.int i) as):∃ t,v= .int i t:=by
 cases r;exact⟨_,rfl⟩
theorem mC(r:xp R cl h vs (d::ds) as):∃ v vs' bs cs,vs=v::vs'/\as=bs++cs/\ReadsW R cl h v d bs/\xp R cl h vs' ds cs:=by
 cases r with |cons a b=>exact⟨_,_,_,_,rfl,rfl,a,b⟩
theorem n9(r:xp R cl h vs [] as):vs= []:=by
 cases r;rfl
theorem tQ(r:ReadsW R cl h v (.list xs) as):∃ a o arr n bs,v= .ref a/\a∈as/\h.get? a=aa o/\o.cls= .type "list" /\o.data= .seq arr n/\xp R cl h arr.toList xs bs:=by
 cases r with |list h1 h2 h3 h4=>exact⟨_,_,_,_,_,rfl,be,h1,h2,h3,h4⟩
theorem p9:∀ {ds:ae WData}{vs:ae bx}{as:ae dv},xp R cl h vs ds as->WShape.hasItems R ds .int=ak-> ∃ (ns:ae Int) (ts:ae Tok),ts.length=ns.length/\vs=((ns.zip ts).map λx=>Value.int x.1 x.2)/\ds.length=ns.length:=by
 intro ds
 induction ds with
 |nil=>
  intro vs as r _
  exact⟨[],[],rfl,n9 r,rfl⟩
 |cons d ds ih=>
  intro vs as r hi
  have h:=dp.mp (show(WShape.has R d .int && WShape.hasItems R ds .int)=ak from hi)
  refine xE (hasW_int h.1) λi z130=>?_;subst z130
  exact nQ (mC r) λv vs' bs cs z131 q r1 r2=>rwL z131 (xE (vN r1) λt z132=>rwL z132 (cC (ih r2 h.2) λns ts hl e hd=>⟨i::ns,t::ts,ei Nat.succ hl,ei (Value.int i t::·) e,ei Nat.succ hd⟩))
theorem wN(e:opening p=plainProg p.main.scope.names)(f:∀ s,fenceModules? p s=aa s)(w:ko):∃ s,AfterRun (opening p) w s/\s.heap=du w.params/\s.gens= #[]/\s.drawn=fk/\s.toks=pz:=by
 refine xEA (dy.mp (boot_plain w p.main.scope.names)) λs hs hv=>?_
 rw[<-e]at hs
 rw[<-ya]at hs
 have A:=AfterImport.of_importEnds hs
 simp only[Prod.mk.injEq]at hv
 exact⟨s,A,hv.1,hv.2.1,hv.2.2.1,hv.2.2.2⟩
theorem pre63(hbd:l.bound=none)(hmost:l.most=aa 63)(h:(OpenLaw.pre l).holds [] {args:=[.list xs]}=ak):xs.length<=63:=by
 have e:(OpenLaw.pre l).holds [] {args:=[.list xs]}= !decide ((63:Int)<(xs.length:Int)):=by
  unfold OpenLaw.pre
  refine rwL hbd (rwL hmost ?_)
  unfold WTm.holds
  dsimp only
  refine rwL (w_and (w_not (w_lt w_lit (w_len_list (w_arg rfl)))) w_lit) ?_
  cases decide ((63:Int)<(xs.length:Int))<;>rfl
 rw[e]at h
 by_cases q:xs.length<=63
 ·exact q
 ·rw[show decide ((63:Int)<(xs.length:Int))=ak from ay (A62 q)]at h;cases h
theorem y9{H:pa}(stat:∃ o n,H.get? yp=aa o/\o.data= .dict #[] n)(key:Str):xg H key=none:=by
 refine iW stat λo n h1 h2=>?_
 unfold xg
 refine rwL h1 ?_
 dsimp only
 refine rwL h2 ?_
 rfl
theorem zA{H:pa}(old:∀ b o,G.get? b=aa o->b≠zn->H.get? b=aa o)(hstat:∀ key,xg H key=none)(key:Str):xg G key=none:=by
 cases hs:xg G key with
 |none=>rfl
 |some v=>
  have:=hstat key
  unfold xg at hs this
  cases hc:G.get? yp with
  |none=>rw[hc]at hs;exact aF hs
  |some o=>
   rw[old _ _ hc (by decide)]at this
   rw[hc]at hs
   rw[this]at hs;exact aF hs
theorem aEr{H:pa}(old:∀ b o,G.get? b=aa o->b≠zn->H.get? b=aa o)(hx:G.isNs kz=ak)(x:Str):builtinOf H x=builtinOf G x:=by
 unfold Heap.isNs at hx
 cases hc:G.get? kz with
 |none=>rw[hc]at hx;cases hx
 |some o=>
  unfold builtinOf
  exact rwL (old _ _ hc (by decide)) (rwL hc rfl)
theorem aAk{H:pa}{os:vx}(hz:Shared.asleep ⟨du w.params,#[],fk,pz,os⟩)(run:Sem.wp (iz p w) Γ0 (rq p).cur (λfin a s'=>fin= .done (.ret .none)/\s'=⟨H,#[],fk,k,os⟩) (λa a a=>fh) default ⟨du w.params,#[],fk,pz,os⟩)(life:H.life=(du w.params).life)(old:∀ b o,(du w.params).get? b=aa o->b≠zn->H.get? b=aa o)(stat:∃ o n,H.get? yp=aa o/\o.data= .dict #[] n)(isn:H.isNs gh=ak)(nb:yg p H=ak)(lk:zo (du w.params) H=ak)(ib:(du w.params).isNs kz=ak)(bv:(du w.params).bltView=yc)(bm:se H):TopRan p w ⟨du w.params,#[],fk,pz,os⟩ ⟨H,#[],fk,k,os⟩:=by
 have hs:=y9 stat
 refine⟨tC hz rfl run,life,rfl,λb o hb' hn=>old b o hb' λq=>hn (.inl q),λkey v hv=>?_,λkey=>.inl ((hs key).trans (zA old hs key).symm),Pin.keysAreStrs_of isn,λx hx=>?_,bm,λg hg=>?_,names_of_bound nb,laid_of_kept lk⟩
 ·rw[hs]at hv;exact aF hv
 ·exact(aEr old ib x).trans ((Pin.builtinOf_eq ib x).trans (Heap.of_bltView ib bv x hx))
 ·exact bw hg (by simp)
def aA0(l:OpenLaw)(vs:ae bx):Sem Fin:=do match<-nsGet zn l.name with
   |some f=>do ret (<-PySem.call f vs)
   |none=>xb "claim.caller:no-such-global"
theorem wG{H:pa}{os:vx}(hbd:l.bound=none)(hmost:l.most=aa 63)(isn:H.isNs gh=ak)(hfa:H.nsMap gh l.name=aa (.ref fa))(walk:∀ (s₁:aw) (a:dv) (ns:ae Int) (ts:ae Tok),(∀ b o,H.get? b=aa o->s₁.heap.get? b=aa o)->s₁.gens= #[]-> ts.length=ns.length->ns.length<=63->s₁.heap.IsList a ((ns.zip ts).map λx=>Value.int x.1 x.2).toArray->H.get? a=none-> ax (iz l.prog w) yq (call (.ref fa) [.ref a]) (λv s'=>v= .bool ak/\(∀ b o,s₁.heap.get? b=aa o->s'.heap.get? b=aa o)/\s'.os=s₁.os/\tf s'.gens) (λq q=>fh) s₁)(args:ae WData)(hpre:l.row.toRowW.claim.pre args=ak)(hlay:WData.layableAll args=ak)(ord:ae yt->ae yt)(hord:∀ l,(ord l).Perm l):∃ vs s₁,layAllW [] (classAt H) w.params ord args ⟨H,#[],fk,k,os⟩=aa (vs,s₁)/\ ax (iz l.prog w) yq (aA0 l vs) (λfin s'=>∃ f,fin= .done f/\(l.row.toRowW.claim.Ends ⟨H,#[],fk,k,os⟩ args vs s₁ (.ok f) s'/\s'.os=os/\tf s'.gens)) (λe s'=>l.row.toRowW.claim.Ends ⟨H,#[],fk,k,os⟩ args vs s₁ (.error e) s'/\s'.os=os/\tf s'.gens) s₁:=by
 have hp:=dp.mp hpre
 refine cC (hasAllW_cons (e:=.list .int) (es:=[]) hp.1) λd ds z133 h1 h2=>?_;subst z133
 obtain rfl:=hasAllW_nil h2
 refine xEA (hasW_list h1) λxs z134 hi=>?_;subst z134
 refine xE (Option.isSome_iff_exists.mp (layAllW_isSome (R:=[]) (cl:=classAt H) (P:=w.params) (ord:=ord) (λc hc=>by cases hc) [.list xs] l.row.toRowW.args ⟨H,#[],fk,k,os⟩ hp.1)) λz135 hlaid=>?_;obtain⟨vs,s₁⟩:=z135
 have keeps:=layAllW_keeps _ _ _ hlaid
 have hal:=layAllW_rest _ _ _ hlaid
 refine dY (reads_layAllW hord _ _ _ hlaid hlay s₁.heap (λq q e=>e)) λas hrd hin hold=>?_
 have L:Laid [] w ⟨H,#[],fk,k,os⟩ s₁ [.list xs] vs as:=⟨⟨ord,hord,hlaid⟩,hrd,hin,hold,keeps,hal.1,hal.2.2.1⟩
 refine⟨vs,s₁,hlaid,?_⟩
 have hlen:=hp.2
 refine nQ (mC hrd) λv vs' bs cs evs eas r1 r2=>s8 (tQ r1) λa o vs2 n as2 ev ha ho hc hdt hr=>cC (p9 hr hi) λns ts hl hv hxs=>?_
 have ev2:vs= [.ref a]:=evs.trans (by exact rwL ev (rwL (n9 r2) rfl))
 have ha:a∈as:=eas▸cz _ ha
 clear hold eas r1 r2 evs ev
 refine rwL ev2 ?_
 rw[ev2]at L
 have h63:ns.length<=63:=rwR hxs (pre63 hbd hmost hlen)
 have hA:(H).get? a=none:=by
  have hge:=(hin.2.2 a ha).1
  cases hq:(H).get? a with
  |none=>rfl
  |some o'=>exact bw (Heap.lt_size hq) (Nat.not_lt.mpr hge)
 have hlist:s₁.heap.IsList a ((ns.zip ts).map λx=>Value.int x.1 x.2).toArray:=⟨o,ho,hc,n,by exact rwL hdt (rwR hv rfl)⟩
 have W:=walk s₁ a ns ts keeps hal.1 hl h63 hlist hA
 have hnsg:s₁.heap.Ns gh ((H).nsMap gh):=by
  have:=Heap.Ns.of_isNs isn
  exact iQ this λo' es n' h1 h2=>⟨o',es,n',keeps _ _ h1,h2⟩
 unfold aA0
 refine zzB (wpAny_nsGet hnsg (rwL hfa (zzB (ir W (λv s' g=>(xAAA g λz136 gk gos gg=>?_)) λq q x=>x.elim))));clear g;subst z136
 refine zzP ⟨_,rfl,?_⟩
 have G:GoodWG l.row.toRowW.claim (classAt (H)) (ExcName.means (H)) [.list xs] s₁ (.ok (.ret (.bool ak))) s':=⟨.inl ⟨.bool ak,.bool ak,[],rfl,λq=>rfl,.bool ak,by rfl',λq=>⟨.nil,λq h=>nomatch h⟩⟩,.of_keep gk,gos,gg⟩
 have z:=GoodWG.laid (c:=l.row.toRowW.claim) (s₀:=⟨H,#[],fk,k,os⟩) rfl rfl (ident_freeW rfl rfl rfl) L G
 exact⟨z.1,z.2.1,z.2.2⟩
theorem vZ{l:OpenLaw}{H₁:ko->pa}(hwr:l.writes=am)(hbd:l.bound=none)(hmost:l.most=aa 63)(said:l.row.wellSaid=ak)(prom:l.row.toRowW.promised)(hb:l.prog.bare)(o1:opensWell l.prog=ak)(e1:opening l.prog=plainProg l.prog.main.scope.names)(f1:∀ s,fenceModules? l.prog s=aa s)(run:∀ w os,Sem.wp (iz l.prog w) Γ0 (rq l.prog).cur (λfin d s'=>fin= .done (.ret .none)/\s'=⟨H₁ w,#[],fk,k,os⟩) (λd d d=>fh) default ⟨du w.params,#[],fk,pz,os⟩)(life:∀ w,(H₁ w).life=(du w.params).life)(old:∀ w b o,(du w.params).get? b=aa o->b≠zn->(H₁ w).get? b=aa o)(stat:∀ w,∃ o n,(H₁ w).get? yp=aa o/\o.data= .dict #[] n)(isn:∀ w,(H₁ w).isNs gh=ak)(nb:∀ w,yg l.prog (H₁ w)=ak)(lk:∀ w,zo (du w.params) (H₁ w)=ak)(ib:∀ w:ko,(du w.params).isNs kz=ak)(bv:∀ w:ko,(du w.params).bltView=yc)(bm:∀ w,se (H₁ w))(pin:∀ w,isTheDefsW l.prog (H₁ w) l.name)(hfa:∀ w,(H₁ w).nsMap gh l.name=aa (.ref fa))(walk:∀ (w:ko) (s₁:aw) (a:dv) (ns:ae Int) (ts:ae Tok),(∀ b o,(H₁ w).get? b=aa o->s₁.heap.get? b=aa o)->s₁.gens= #[]-> ts.length=ns.length->ns.length<=63->s₁.heap.IsList a ((ns.zip ts).map λx=>Value.int x.1 x.2).toArray->(H₁ w).get? a=none-> ax (iz l.prog w) yq (call (.ref fa) [.ref a]) (λv s'=>v= .bool ak/\(∀ b o,s₁.heap.get? b=aa o->s'.heap.get? b=aa o)/\s'.os=s₁.os/\tf s'.gens) (λd d=>fh) s₁):l.row.Holds:=by
 refine⟨said,prom,⟨hb,o1,rfl⟩,xEA prom λargs h1 h2=>⟨args,h1,(dp.mp h2).1⟩,λw=>(aAe (wN e1 f1 w) λs₀ hA hh hg hd ht=>⟨⟨s₀,hA⟩,λs' hs'=>?_⟩)⟩
 obtain rfl:s'=s₀:=AfterImport.unique hs' hA
 obtain⟨heap,gens,drawn,toks,os⟩:=s'
 dsimp only at hh hg hd ht
 subst hh hg hd ht
 have hz:Shared.asleep ⟨du w.params,#[],fk,pz,os⟩:=AfterImport.life hA
 have hT:=aAk (p:=l.prog) hz (run w os) (life w) (old w) (stat w) (isn w) (nb w) (lk w) (ib w) (bv w) (bm w)
 refine⟨_,f1 _,rfl,⟨H₁ w,#[],fk,k,os⟩,hT,λn hn=>?_,λx hx=>(nomatch (show x∈([]:WRecords) from hx)),λx hx=>(nomatch (show x∈([]:WRecords) from hx)),?_⟩
 ·obtain rfl:n=l.name:=by simpa [OpenLaw.row] using hn
  exact pin w
 have hz₁:Shared.asleep ⟨H₁ w,#[],fk,k,os⟩:=Shared.asleep_of_life (life w) hz
 refine ClaimW.callFrom_of_specG (c:=l.row.toRowW.claim) (tree:=aA0 l) hz₁ rfl λargs hpre hlay ord hord=>iW (wG (k:=k) (os:=os) hbd hmost (isn w) (hfa w) (walk w) args hpre hlay ord hord) λvs s₁ q1 q2=>?_
 have no: ¬l.row.writes=ak:=λq=>by rw[show l.row.writes=l.writes from rfl,hwr]at q;cases q
 exact⟨vs,s₁,q1,ir q2 (λfin s' ⟨f,e,g1,g2,g3⟩=>⟨f,e,g1,g2,g3,λq=>bw q no⟩) λe s' ⟨g1,g2,g3⟩=>⟨g1,g2,g3,λq=>bw q no⟩⟩
def H1(w:ko):pa:=vy (finT w) endN (du w.params).life
theorem bt0_eq(P:dr):vy (bt0 P) 11 (du P).life=du P:=by rfl'
theorem aCc(P:dr):((KL P).all λx=>blt x.1 endN)=ak:=by rfl'
set_option tactic.hygienic true in
theorem wS(w:ko):(KL w.params).In (H1 w):=by
 have key:∀ (K:vi) (T:BT) (n:Nat) (life:Life),(K.map λx=>(T.get x.1).bind alive)=K.map (λx=>aa x.2)->(K.all λx=>blt x.1 n)=ak->K.In (vy T n life):=by
  intro K T n life
  induction K with
  |nil=>intro _ _ a o e;exact aF e
  |cons p r ih=>
   obtain⟨b,x⟩:=p
   intro h1 h2 a o e
   simp only[fp,List.cons.injEq]at h1
   simp only[List.all_cons,Bool.and_eq_true]at h2
   simp only[List.lookup]at e
   split at e
   ·rename_i q
    refine cxS e ?_
    obtain rfl:=beq_iff_eq.mp q
    have hlt:=jp h2.1
    exact xEA (aq.mp h1.1) λo' g1 g2=>(abs_get hlt g1).trans g2
   ·exact ih h1.2 h2.2 a o e
 exact key _ _ _ _ (gets w) (aCc w.params)
theorem aF5(w:ko)(os:vx):Sem.wp (iz pw w) Γ0 (rq pw).cur (λfin q s'=>fin= .done (.ret .none)/\s'=⟨H1 w,#[],fk,endK,os⟩) (λq q q=>fh) default ⟨du w.params,#[],fk,pz,os⟩:=by
 have h:=finEq w
 unfold wW at h
 rw[<-den_eq,<-p_eq]at h
 have e:ab (du w.params).life #[] fk os (bt0 w.params) 11 pz=⟨du w.params,#[],fk,pz,os⟩:=by
  unfold ab;rw[bt0_eq]
 refine rwR e ?_
 have key:Ph (du w.params).life #[] fk os (λfin q s'=>fin= .done (.ret .none)/\s'=⟨H1 w,#[],fk,endK,os⟩) (λq q q=>fh) (aa ((Except.ok (PySem.Fin.done (Flow.ret Value.none)):Except bx PySem.Fin),finP w,finT w,endN,endK)):=⟨rfl,rfl⟩
 rw[<-h]at key
 exact aDx (iz pw w) (du w.params).life #[] fk os (λhq=>v8 (iz pw w) (du w.params).life #[] fk os 3000 hq) _ key
theorem get3(w:ko):(H1 w).get? 3=aa (o3 w.params):=wS w _ _ ⋯
theorem old1(w:ko)(b:dv)(o:Obj)(h:(du w.params).get? b=aa o)(hn:b≠zn):(H1 w).get? b=aa o:=by
 have hlt:b<11:=Heap.lt_size h
 have K:=wS w
 match b,hlt,hn with
 |0,_,_=>
  have e:(du w.params).get? 0=aa (yo w.params):=by rfl'
  rw[e]at h;exact cxS h (K _ _ ⋯)
 |1,_,_=>
  have e:(du w.params).get? 1=aa (boot_o_1 w.params):=by rfl'
  rw[e]at h;exact cxS h (K _ _ ⋯)
 |2,_,_=>
  have e:(du w.params).get? 2=aa (zl w.params):=by rfl'
  rw[e]at h;exact cxS h (K _ _ ⋯)
 |3,_,hn=>exact bw rfl hn
 |4,_,_=>
  have e:(du w.params).get? 4=aa (zm w.params):=by rfl'
  rw[e]at h;exact cxS h (K _ _ ⋯)
 |5,_,_=>
  have e:(du w.params).get? 5=aa (boot_o_5 w.params):=by rfl'
  rw[e]at h;exact cxS h (K _ _ ⋯)
 |6,_,_=>
  have e:(du w.params).get? 6=aa (boot_o_6 w.params):=by rfl'
  rw[e]at h;exact cxS h (K _ _ ⋯)
 |7,_,_=>
  have e:(du w.params).get? 7=aa (boot_o_7 w.params):=by rfl'
  rw[e]at h;exact cxS h (K _ _ ⋯)
 |8,_,_=>
  have e:(du w.params).get? 8=aa (boot_o_8 w.params):=by rfl'
  rw[e]at h;exact cxS h (K _ _ ⋯)
 |9,_,_=>
  have e:(du w.params).get? 9=aa (boot_o_9 w.params):=by rfl'
  rw[e]at h;exact cxS h (K _ _ ⋯)
 |10,_,_=>
  have e:(du w.params).get? 10=aa (boot_o_10 w.params):=by rfl'
  rw[e]at h;exact cxS h (K _ _ ⋯)
 |b+11,hlt,_=>exact bw hlt (Nat.not_lt.mpr (ph 11 b))
theorem ns3(w:ko)(x:Str):(H1 w).nsMap gh x=(match (o3 w.params).data with | .dict es _=>nsFind es x |_=>none):=by
 unfold Heap.nsMap gh;rw[get3];rfl
theorem isn1(w:ko):(H1 w).isNs gh=ak:=by
 unfold Heap.isNs gh;rw[get3];kernel_rfl
theorem keys3(w:ko):(H1 w).nsKeys gh=(match (o3 w.params).data with
  | .dict es _=>es.toList.filterMap λe=>match e.key with | .str n _=>aa n |_=>none
  |_=>[]):=by
 unfold Heap.nsKeys gh;rw[get3];rfl
theorem nb1(w:ko):yg pw (H1 w)=ak:=by
 unfold yg;rw[isn1,keys3];kernel_rfl
theorem lk1(w:ko):zo (du w.params) (H1 w)=ak:=by
 unfold zo;rw[isn1];simp only[ns3];kernel_rfl
theorem ib1(w:ko):(du w.params).isNs kz=ak:=by rfl'
theorem bv1(w:ko):(du w.params).bltView=yc:=by rfl'
theorem bm1(w:ko):se (H1 w):=by
 refine⟨4,zm w.params,?_,wS w _ _ ⋯,by rfl',by rfl'⟩
 rw[Pin.globalOf_eq (isn1 w),ns3];kernel_rfl
def law:Str:=Str.ofString "law"
theorem fa1(w:ko):(H1 w).nsMap gh law=aa (.ref 268):=by rw[ns3];kernel_rfl
theorem pin1(w:ko):isTheDefsW pw (H1 w) law:=⟨268,o268 w.params,_,_,_,_,(Pin.globalOf_eq (isn1 w) _).trans (fa1 w),wS w _ _ ⋯,rfl,(by rfl':pw.theDef law=aa (fPar (stA 10),cX (stA 10),fSco (stA 10))),rfl,rfl,rfl,rfl,rfl,rfl,rfl,rfl,⟨.inl ⟨rfl,rfl⟩,[],rfl,.inl ⟨rfl,rfl⟩⟩⟩
theorem said5:OpenLaw.wellSaid PySem.Challenge.rw_dm0053_03=ak:=by rfl'
theorem head(walk:∀ (w:ko) (s₁:aw) (a:dv) (ns:ae Int) (ts:ae Tok),(∀ b o,(H1 w).get? b=aa o->s₁.heap.get? b=aa o)->s₁.gens= #[]-> ts.length=ns.length->ns.length<=63->s₁.heap.IsList a ((ns.zip ts).map λx=>Value.int x.1 x.2).toArray->(H1 w).get? a=none-> ax (iz pw w) yq (call (.ref 268) [.ref a]) (λv s'=>v= .bool ak/\(∀ b o,s₁.heap.get? b=aa o->s'.heap.get? b=aa o)/\s'.os=s₁.os/\tf s'.gens) (λq q=>fh) s₁):PySem.Challenge.rw_dm0053_03.Holds:=holds_law said5 λsaid=>vZ (l:=PySem.Challenge.rw_dm0053_03) rfl rfl rfl said ⟨[.list []],by decide+kernel,by decide+kernel⟩ ⟨rfl,rfl,rfl,rfl,rfl,by decide+kernel⟩ (by decide+kernel) ⋯ (λs=>by rfl')
  aF5 (λq=>rfl) old1 (λw=>⟨zl w.params,0,wS w _ _ ⋯,by rfl'⟩) isn1 nb1 lk1 ib1 bv1 bm1 pin1 fa1 walk
def nth(b:ae jz)(k:Nat):jz:=(b.drop k).headD (.Pass ⟨0,0,0,0⟩)
def e0:Expr:=.Constant .none 0 ⟨0,0,0,0⟩
def p0:Pos:=⟨0,0,0,0⟩
def forT:jz->Expr | .For t _ _ _ _=>t |_=>e0
def forI:jz->Expr | .For _ i _ _ _=>i |_=>e0
def forB:jz->ae jz | .For _ _ b _ _=>b |_=>[]
def forP:jz->Pos | .For _ _ _ _ p=>p |_=>p0
def ifT:jz->Expr | .If t _ _ _=>t |_=>e0
def ifB:jz->ae jz | .If _ b _ _=>b |_=>[]
def ifP:jz->Pos | .If _ _ _ p=>p |_=>p0
def exE:jz->Expr | .Expr e _=>e |_=>e0
def exP:jz->Pos | .Expr _ p=>p |_=>p0
def yiE:Expr->Expr | .Yield (aa e) _=>e |_=>e0
def yiP:Expr->Pos | .Yield _ p=>p |_=>p0
def gshOf(fd:wy)(fa:dv)(b:ae jz)(k:Nat):GSh:=let f:=nth b k
 let i1:=nth (forB f) 0
 let i2:=nth b (k+1)
 {fd:=fd,fa:=fa,pre:=b.take k,target:=forT f,iter:=forI f,cond:=ifT i1,ye:=yiE (exE (nth (ifB i1) 1)),cond2:=ifT i2,ye2:=yiE (exE (nth (ifB i2) 0)),s1:=nth (ifB i1) 0,s3:=nth (forB f) 1,s2:=(ifB i1).drop 2,p1:=yiP (exE (nth (ifB i1) 1)),p2:=exP (nth (ifB i1) 1),p3:=yiP (exE (nth (ifB i2) 0)),p4:=exP (nth (ifB i2) 0),p5:=ifP i1,p6:=ifP i2,p7:=forP f}
theorem aC5(fd:wy):(gshOf fd 218 (cX (stB 5 9)) 7).body=cX (stB 5 9):=by rfl'
def bB(o:Obj):wy:=match o.data with | .func fd=>fd |_=> {name:="",qualname:="",params:=⟨[],[],none,[],[],none,[]⟩,body:=.stmts [],scope:=default,globals:=0,closure:=[],defaults:=.none,kwdefaults:=.none,doc:=.none,pyModule:=.none,annotations:=none,code:=.none,closureTuple:=.none,builtins:=0}
noncomputable abbrev gsh(P:dr):GSh:=gshOf (bB (tV P)) 218 (cX (stB 5 9)) 7
structure XX(C:Cx) where
 w:ko
 base:∀ b o,(H1 w).get? b=aa o->C.base.heap.get? b=aa o
 gr:∀ ρ s l gn,C.GR ρ s l gn=fS (gsh w.params) ρ s l gn
variable(X:XX C)
theorem XX.get{b:dv}(h:(KL X.w.params).lookup b=aa o):C.base.heap.get? b=aa o:=X.base _ _ (wS X.w _ _ h)
theorem XX.inK:(KL X.w.params).In C.base.heap:=λq q h=>X.get h
theorem XX.sys(X:XX C):∃ o,C.base.heap.get? pd=aa o:=⟨_,X.get (Option.eq_some_of_isSome (by rfl':((KL X.w.params).lookup pd).isSome=ak))⟩
theorem xF{h:pa}{a:dv}(e:h.get? a=aa o)(hn:(match o.data with | .dict es _=>es.all (λx=>match x.key with | .str _ _=>ak |_=>am) |_=>am)=ak):h.Ns a (λx=>match o.data with | .dict es _=>nsFind es x |_=>none):=by
 have q:h.isNs a=ak:=by unfold Heap.isNs;exact rwL e hn
 have z:=Heap.Ns.of_isNs q
 have y:h.nsMap a=(λx=>match o.data with | .dict es _=>nsFind es x |_=>none):=by funext x;unfold Heap.nsMap;refine rwL e ?_;rfl
 exact rwR y z
theorem XX.smc(X:XX C):SMC C:=by
 refine⟨⟨_,_,_,_,_,_,_,_,_,_,_,_,X.get (o:=o242 X.w.params) ⋯⟩,⟨_,xF (X.get (o:=o241 X.w.params) ⋯) ⋯,?_,by rfl',by rfl',by rfl',?_⟩,?_⟩
 ·intro x hx
  simp only[c7,cy,dt,wv]at hx
  rcases hx with rfl |rfl |rfl |rfl |rfl |rfl |rfl |rfl |rfl |rfl<;>kernel_rfl
 ·intro p hp
  simp only[fC,cy,dt,wv]at hp
  rcases hp with rfl |rfl |rfl |rfl |rfl |rfl |rfl |rfl |rfl<;>kernel_rfl
 ·intro p hp
  simp only[fC,cy,dt,wv]at hp
  rcases hp with rfl |rfl |rfl |rfl |rfl |rfl |rfl |rfl |rfl
  ·exact⟨zG X.w.params,X.get ⋯,rfl⟩
  ·exact⟨o167 X.w.params,X.get ⋯,rfl⟩
  ·exact⟨o174 X.w.params,X.get ⋯,rfl⟩
  ·exact⟨o181 X.w.params,X.get ⋯,rfl⟩
  ·exact⟨o188 X.w.params,X.get ⋯,rfl⟩
  ·exact⟨o196 X.w.params,X.get ⋯,rfl⟩
  ·exact⟨o203 X.w.params,X.get ⋯,rfl⟩
  ·exact⟨o210 X.w.params,X.get ⋯,rfl⟩
  ·exact⟨tV X.w.params,X.get ⋯,rfl⟩
theorem XX.kc:KCx C (KL X.w.params) where
 mem:=X.inK
 makes:=by rfl'
 init:=by rfl'
 initT:=by rfl'
 callS:=by rfl'
 callM:=by rfl'
 typM:=by rfl'
 clsM:=⟨_,_,_,_,(by rfl':(KL X.w.params).lookup aG=aa (o135 X.w.params)),by rfl',by rfl',by rfl',by rfl',by rfl',by rfl',by rfl'⟩
 clsS:=⟨_,_,_,_,(by rfl':(KL X.w.params).lookup d3=aa (o242 X.w.params))⟩
 readsM:=by rfl'
 newM:=by rfl'
 makeM:=by rfl'
 smM:=by rfl'
 cmM:=⟨Value.bool am,by rfl'⟩
 initM:=by rfl'
 newT:=by rfl'
theorem XX.km:KMx C (KL X.w.params) where
 toK:=X.kc
 bases:=⟨_,_,_,_,(by rfl':(KL X.w.params).lookup aG=aa (o135 X.w.params)),by rfl'⟩
 iter:=by rfl'
 len:=by rfl'
 lt:=by rfl'
 tup:=by rfl'
def nmL(env:Env)(x:Str):fq:=(match env.kindOf x with |some .local=>ak |some .cell=>ak |some .free=>ak |_=>am) && !(x==("__debug__" :Str)) && !(x==("__classdict__" :Str))
theorem vR(h:nmL env x=ak):(env.kindOf x=aa .local\/env.kindOf x=aa .cell\/env.kindOf x=aa .free)/\(x==("__debug__" :Str))=am/\(x==("__classdict__" :Str))=am:=by
 unfold nmL at h
 have h1:=dp.mp h
 have h2:=dp.mp h1.1
 refine⟨?_,Bool.not_eq_true' _ |>.mp h2.2,Bool.not_eq_true' _ |>.mp h1.2⟩
 have h3:=h2.1
 revert h3
 cases env.kindOf x with
 |none=>intro h;cases h
 |some k=>cases k<;>intro h<;>first |exact .inl rfl |exact .inr (.inl rfl) |exact .inr (.inr rfl) |cases h
theorem EV.nm(h:nmL env x=ak):EV C r env (.Name x pos) (eN x):=EV.name (vR h).1 (vR h).2.1 (vR h).2.2
def nmB(env:Env)(x:Str):fq:=match env.kindOf x with |some .local=>ak |some .cell=>ak |_=>am
theorem nms_ok{l:ae Str}(h:l.all (nmB env)=ak)(x:Str)(hx:x∈l):env.kindOf x=aa .local\/env.kindOf x=aa .cell:=by
 have h3:=jd.mp h x hx
 unfold nmB at h3
 revert h3
 cases env.kindOf x with
 |none=>intro h;cases h
 |some k=>cases k<;>intro h<;>first |exact .inl rfl |exact .inr rfl |cases h
def nmD(ns:ae (Str×lh))(x:Str):fq:=match ns.lookup x with |some .local=>ak |some .cell=>ak |_=>am
theorem dL{l:ae Str}(h:l.all (nmD ns)=ak)(x:Str)(hx:x∈l):ns.lookup x=aa .local\/ns.lookup x=aa .cell:=by
 have h3:=jd.mp h x hx
 unfold nmD at h3
 revert h3
 cases ns.lookup x with
 |none=>intro h;cases h
 |some k=>cases k<;>intro h<;>first |exact .inl rfl |exact .inr rfl |cases h
theorem aBw{ns:ae (Str×lh)}{l:ae Str}(h:l.all (λx=>ns.lookup x==aa .local)=ak)(x:Str)(hx:x∈l):ns.lookup x=aa .local:=uh (jd.mp h x hx)
theorem nofree{l:ae (Str×lh)}(h:(l.all λx=>match x.2 with | .free=>am |_=>ak)=ak)(x:Str):l.lookup x≠aa .free:=by
 intro e
 have:=jd.mp h _ (mem_of_lookup e)
 exact Bool.false_ne_true this
theorem XX.def_{a:dv}(h1:(KL X.w.params).lookup a=aa o)(h2:(KL X.w.params).lookup c=aa oc)(e1:o.data= .func (bB o))(e2:(bB o).code= .ref c)(e3:oc.data= .fields vs)(e4:vs[1]? =aa (.str (bB o).qualname t))(e5:(bB o).body= .stmts body)(e6:(bB o).closure= [])(e7:(bB o).globals=gh)(e8:(bB o).builtins=kz)(e9:(bB o).scope.kind= .function)(ea:(bB o).scope.isCoroutine=am)(eb:((bB o).scope.names.all λx=>match x.2 with | .free=>am |_=>ak)=ak):Def C a (bB o) body:=⟨⟨_,X.get h1,e1⟩,⟨c,_,_,_,e2,X.get h2,e3,e4⟩,e5,e6,e7,e8,e9,ea,nofree eb⟩
def alln(P:ae bx->Prop)(n:Nat):ae bx->Prop:=n.rec P λq ih l=>∀ a,ih (l++[a])
theorem aHk:∀ {l us:ae bx},us.length=n->alln P n l->P (l++us):=by
 induction n with
 |zero=>intro l us h p;cases dq h;rw[cw];exact p
 |succ n ih=>
  intro l us h p
  cases us with
  |nil=>cases h
  |cons a us=>rw[List.append_cons];exact ih (Nat.succ.inj h) (p a)
theorem XX.bnd{dflt:ae bx}(n:Nat)(e:names.length=n+dflt.length)(h:alln (λus=>∀ S,peek (KL X.w.params) S (bindArgs fd ⟨us,[]⟩)=aa (names.zip (us++dflt))) n []):Binds C fd names dflt:=λs us hk hl M A E Q q=>
 (Looks.of_peek (M:=M) (X.kc.mem.keeps hk) (aHk (l:=[]) (Nat.add_right_cancel (af.symm.trans (hl.trans e))) h _)).here q
theorem XX.ns3:C.base.heap.Ns gh (λx=>match (o3 X.w.params).data with | .dict es _=>nsFind es x |_=>none):=xF (X.get (o:=o3 X.w.params) ⋯) ⋯
theorem XX.ns0:C.base.heap.Ns kz (λx=>match (yo X.w.params).data with | .dict es _=>nsFind es x |_=>none):=xF (X.get (o:=yo X.w.params) ⋯) ⋯
theorem XX.g_Match(X:XX C):Glo C "Match" (.ref aG):=⟨_,X.ns3,.inl ⋯⟩
theorem XX.g_SequenceMatcher(X:XX C):Glo C "SequenceMatcher" (.ref d3):=⟨_,X.ns3,.inl ⋯⟩
theorem XX.g__law_chapters(X:XX C):Glo C "_law_chapters" (.ref 251):=⟨_,X.ns3,.inl ⋯⟩
theorem XX.g__law_moved(X:XX C):Glo C "_law_moved" (.ref 256):=⟨_,X.ns3,.inl ⋯⟩
theorem XX.g__law_kept(X:XX C):Glo C "_law_kept" (.ref 263):=⟨_,X.ns3,.inl ⋯⟩
theorem XX.g_list(X:XX C):Glo C "list" (.type "list"):=⟨_,X.ns3,.inr ⟨by rfl',_,X.ns0,by rfl'⟩⟩
theorem XX.g_map(X:XX C):Glo C "map" (.type "map"):=⟨_,X.ns3,.inr ⟨by rfl',_,X.ns0,by rfl'⟩⟩
theorem XX.g_set(X:XX C):Glo C "set" (.type "set"):=⟨_,X.ns3,.inr ⟨by rfl',_,X.ns0,by rfl'⟩⟩
theorem XX.g_range(X:XX C):Glo C "range" (.type "range"):=⟨_,X.ns3,.inr ⟨by rfl',_,X.ns0,by rfl'⟩⟩
theorem XX.g_enumerate(X:XX C):Glo C "enumerate" (.type "enumerate"):=⟨_,X.ns3,.inr ⟨by rfl',_,X.ns0,by rfl'⟩⟩
theorem XX.g_tuple(X:XX C):Glo C "tuple" (.type "tuple"):=⟨_,X.ns3,.inr ⟨by rfl',_,X.ns0,by rfl'⟩⟩
theorem XX.g_len(X:XX C):Glo C "len" (.builtin "len"):=⟨_,X.ns3,.inr ⟨by rfl',_,X.ns0,by rfl'⟩⟩
theorem XX.g_max(X:XX C):Glo C "max" (.builtin "max"):=⟨_,X.ns3,.inr ⟨by rfl',_,X.ns0,by rfl'⟩⟩
theorem XX.g_min(X:XX C):Glo C "min" (.builtin "min"):=⟨_,X.ns3,.inr ⟨by rfl',_,X.ns0,by rfl'⟩⟩
theorem XX.g_sum(X:XX C):Glo C "sum" (.builtin "sum"):=⟨_,X.ns3,.inr ⟨by rfl',_,X.ns0,by rfl'⟩⟩
theorem XX.d_new:Def C 82 (bB (o82 X.w.params)) (cX (stB 3 4)):=X.def_ (c:=81) (oc:=o81 X.w.params) ⋯ ⋯ rfl rfl rfl rfl rfl rfl rfl rfl ⋯ ⋯ ⋯
theorem XX.b_new:Binds C (bB (o82 X.w.params)) ["_cls","a","b","size"] []:=X.bnd 4 rfl λq q q q q=>by rfl'
theorem XX.d_make:Def C 89 (bB (o89 X.w.params)) (cX (stB 3 5)):=X.def_ (c:=88) (oc:=o88 X.w.params) ⋯ ⋯ rfl rfl rfl rfl rfl rfl rfl rfl ⋯ ⋯ ⋯
theorem XX.b_make:Binds C (bB (o89 X.w.params)) ["cls","iterable"] []:=X.bnd 2 rfl λq q q=>by rfl'
theorem XX.d_init:Def C 160 (bB (zG X.w.params)) (cX (stB 5 1)):=X.def_ (c:=159) (oc:=o159 X.w.params) ⋯ ⋯ rfl rfl rfl rfl rfl rfl rfl rfl ⋯ ⋯ ⋯
theorem XX.b_init:Binds C (bB (zG X.w.params)) ["self","isjunk","a","b","autojunk"] []:=X.bnd 5 rfl λq q q q q q=>by rfl'
theorem XX.b_init1:Binds C (bB (zG X.w.params)) ["self","isjunk","a","b","autojunk"] [Value.bool ak]:=X.bnd 4 rfl λq q q q q=>by rfl'
theorem XX.d_set_seqs:Def C 167 (bB (o167 X.w.params)) (cX (stB 5 2)):=X.def_ (c:=166) (oc:=o166 X.w.params) ⋯ ⋯ rfl rfl rfl rfl rfl rfl rfl rfl ⋯ ⋯ ⋯
theorem XX.b_set_seqs:Binds C (bB (o167 X.w.params)) ["self","a","b"] []:=X.bnd 3 rfl λq q q q=>by rfl'
theorem XX.d_set_seq1:Def C 174 (bB (o174 X.w.params)) (cX (stB 5 3)):=X.def_ (c:=173) (oc:=o173 X.w.params) ⋯ ⋯ rfl rfl rfl rfl rfl rfl rfl rfl ⋯ ⋯ ⋯
theorem XX.b_set_seq1:Binds C (bB (o174 X.w.params)) ["self","a"] []:=X.bnd 2 rfl λq q q=>by rfl'
theorem XX.d_set_seq2:Def C 181 (bB (o181 X.w.params)) (cX (stB 5 4)):=X.def_ (c:=180) (oc:=o180 X.w.params) ⋯ ⋯ rfl rfl rfl rfl rfl rfl rfl rfl ⋯ ⋯ ⋯
theorem XX.b_set_seq2:Binds C (bB (o181 X.w.params)) ["self","b"] []:=X.bnd 2 rfl λq q q=>by rfl'
theorem XX.d_chain_b:Def C 188 (bB (o188 X.w.params)) (cX (stB 5 5)):=X.def_ (c:=187) (oc:=o187 X.w.params) ⋯ ⋯ rfl rfl rfl rfl rfl rfl rfl rfl ⋯ ⋯ ⋯
theorem XX.b_chain_b:Binds C (bB (o188 X.w.params)) ["self"] []:=X.bnd 1 rfl λq q=>by rfl'
theorem XX.d_find_longest_match:Def C 196 (bB (o196 X.w.params)) (cX (stB 5 6)):=X.def_ (c:=195) (oc:=o195 X.w.params) ⋯ ⋯ rfl rfl rfl rfl rfl rfl rfl rfl ⋯ ⋯ ⋯
theorem XX.b_find_longest_match:Binds C (bB (o196 X.w.params)) ["self","alo","ahi","blo","bhi"] []:=X.bnd 5 rfl λq q q q q q=>by rfl'
theorem XX.d_get_matching_blocks:Def C 203 (bB (o203 X.w.params)) (cX (stB 5 7)):=X.def_ (c:=202) (oc:=o202 X.w.params) ⋯ ⋯ rfl rfl rfl rfl rfl rfl rfl rfl ⋯ ⋯ ⋯
theorem XX.b_get_matching_blocks:Binds C (bB (o203 X.w.params)) ["self"] []:=X.bnd 1 rfl λq q=>by rfl'
theorem XX.d_get_opcodes:Def C 210 (bB (o210 X.w.params)) (cX (stB 5 8)):=X.def_ (c:=209) (oc:=o209 X.w.params) ⋯ ⋯ rfl rfl rfl rfl rfl rfl rfl rfl ⋯ ⋯ ⋯
theorem XX.b_get_opcodes:Binds C (bB (o210 X.w.params)) ["self"] []:=X.bnd 1 rfl λq q=>by rfl'
theorem XX.d_get_grouped_opcodes:Def C 218 (bB (tV X.w.params)) (cX (stB 5 9)):=X.def_ (c:=217) (oc:=o217 X.w.params) ⋯ ⋯ rfl rfl rfl rfl rfl rfl rfl rfl ⋯ ⋯ ⋯
theorem XX.b_get_grouped_opcodes:Binds C (bB (tV X.w.params)) ["self","n"] []:=X.bnd 2 rfl λq q q=>by rfl'
theorem XX.b_get_grouped_opcodes1:Binds C (bB (tV X.w.params)) ["self","n"] [Value.int 3 534]:=X.bnd 1 rfl λq q=>by rfl'
theorem XX.d__law_chapters:Def C 251 (bB (o251 X.w.params)) (cX (stA 7)):=X.def_ (c:=250) (oc:=o250 X.w.params) ⋯ ⋯ rfl rfl rfl rfl rfl rfl rfl rfl ⋯ ⋯ ⋯
theorem XX.b__law_chapters:Binds C (bB (o251 X.w.params)) ["numbers"] []:=X.bnd 1 rfl λq q=>by rfl'
theorem XX.d__law_moved:Def C 256 (bB (o256 X.w.params)) (cX (stA 8)):=X.def_ (c:=255) (oc:=o255 X.w.params) ⋯ ⋯ rfl rfl rfl rfl rfl rfl rfl rfl ⋯ ⋯ ⋯
theorem XX.b__law_moved:Binds C (bB (o256 X.w.params)) ["group","x","y"] []:=X.bnd 3 rfl λq q q q=>by rfl'
theorem XX.d__law_kept:Def C 263 (bB (o263 X.w.params)) (cX (stA 9)):=X.def_ (c:=262) (oc:=o262 X.w.params) ⋯ ⋯ rfl rfl rfl rfl rfl rfl rfl rfl ⋯ ⋯ ⋯
theorem XX.b__law_kept:Binds C (bB (o263 X.w.params)) ["x","y","begin","end"] []:=X.bnd 4 rfl λq q q q q=>by rfl'
theorem XX.d_law:Def C 268 (bB (o268 X.w.params)) (cX (stA 10)):=X.def_ (c:=267) (oc:=o267 X.w.params) ⋯ ⋯ rfl rfl rfl rfl rfl rfl rfl rfl ⋯ ⋯ ⋯
theorem XX.b_law:Binds C (bB (o268 X.w.params)) ["script"] []:=X.bnd 1 rfl λq q=>by rfl'
theorem XX.gc:GCx C (gsh X.w.params) where
 gr:=X.gr
 loc:=λL x=>by
  have h:∀ k,((gsh X.w.params).envL L).kindOf x=aa k->k≠ .cell/\k≠ .free:=λk e=>by
   have h2:(bB (tV X.w.params)).scope.names.all (λp=>match p.2 with | .cell=>am | .free=>am |_=>ak)=ak:=by rfl'
   have:=jd.mp h2 _ (mem_of_lookup e)
   constructor<;>rintro rfl<;>simp at this
  exact⟨λe=>(h _ e).1 rfl,λe=>(h _ e).2 rfl⟩
 cells:=λL=>by rfl'
 kind:=by rfl'
 gl:=by rfl'
 bi:=by rfl'
universe u v
structure Pk(α:Type u)(P:α->Prop):Type u where
 f:α
 ok:P f
def bd{α:Type u}{P:α->Prop}{β:Type v}(o:aj (Pk α P))(k:∀ f,P f->aj β):aj β:=o.rec none λR=>R.rec k
def gtO{α:Type u}{P:α->Prop}(o:aj (Pk α P)):aj α:=o.rec none λR=>aa R.1
theorem tS{α:Type u}{P:α->Prop}{o:aj (Pk α P)}{f:α}(h:gtO o=aa f):P f:=by
 cases o with
 |none=>cases h
 |some R=>exact cxS h R.2
def orE{β:Type u}(o k:aj β):aj β:=o.rec k aa
def onN{β:Type u}(n m:Nat)(k:n=m->aj β)(o:aj β):aj β:=if h:n=m then k h else o
def onS{β:Type u}(x y:Str)(k:x=y->aj β)(o:aj β):aj β:=if h:x=y then k h else o
def onB{β:Type u}(b:fq)(k:b=ak->aj β):aj β:=if h:b=ak then k h else none
def onF{β:Type u}(b:fq)(k:b=am->aj β):aj β:=if h:b=am then k h else none
noncomputable abbrev Kn:=Str->aj lh
structure KE(κ:Kn)(env:Env):Prop where
 kd:env.kindOf=κ
 sk:env.scope.kind= .function
structure Pf(e:Expr):Prop where
 star:∀ es env,eh (e::es) env=(am,jl e env)::eh es env
 sub:∀ o i,subscripted e am o i=operate [o,i] (getItem o i)
 beh:∀ op,xu op e=am
 fold:∀ env x,iw e env x=pure x
 sw:e.ctorIdx.beq 8=am->∀ t l env,uf e t l env=pure am
 nb:e.ctorIdx.beq 16=am->∀ x env,kr e x env (jl e env)=jl e env
 lg:e.ctorIdx.beq 23=ak->∀ o x,qx e o x=pure ()
 tv:(e.ctorIdx.beq 0 || e.ctorIdx.beq 3 || e.ctorIdx.beq 5 || e.ctorIdx.beq 15)=am->∀ env,isTrue e env (jl e env)=(do let v<-jl e env;vu e.pos;vv [v] (truthy v))
 nt:e.ctorIdx.beq 25=am->∀ ts n p env,kq [.Tuple ts n p] e env=pure none
theorem gQ(h: [0,2,3,5,6,8,15,16,19,20,21,23,24,25].elem e.ctorIdx=ak):Pf e:=by
 have z:∀ {P:Prop},ak=am->P:=λh=>(Bool.false_ne_true h.symm).elim
 cases e<;>first |exact z h.symm |exact ⟨λq q=>rfl,λq q=>rfl,λq=>rfl,λq q=>rfl,by first |exact λq q q q=>rfl |exact z,by first |exact λq q q=>rfl |exact z,by first |exact λh=>z h.symm |exact λq q q=>rfl,by first |exact λq q=>rfl |exact z,by first |exact λq q q q q=>rfl |exact z⟩
structure EP(C:Cx)(r:Nat)(κ:Kn)(e:Expr)(f:EF):Prop where
 ok:∀ ⦃env:Env⦄,KE κ env->EV C r env e f
 pf:Pf e
noncomputable abbrev RE(C:Cx)(r:Nat)(κ:Kn)(e:Expr):=Pk EF (EP C r κ e)
structure EsP(C:Cx)(r:Nat)(κ:Kn)(es:ae Expr)(f:EFs):Prop where
 ok:∀ ⦃env:Env⦄,KE κ env->EVs C r env es f
 fl:∀ env,mU env es
def TP(C:Cx)(r:Nat)(κ:Kn)(e:Expr)(f:TF):Prop:=∀ ⦃env:Env⦄,KE κ env->TV C r env e f
noncomputable abbrev RT(C:Cx)(r:Nat)(κ:Kn)(e:Expr):=Pk TF (TP C r κ e)
noncomputable abbrev dEt(C:Cx)(r:Nat):=∀ (κ:Kn) (e:Expr),aj (RE C r κ e)
noncomputable abbrev dTt(C:Cx)(r:Nat):=∀ (κ:Kn) (e:Expr),aj (RT C r κ e)
structure Fn(C:Cx) where
 x:Str
 n:Nat
 v:bx
 r0:Nat
 g:CF
 cv:CV C r0 v g
 gl:Glo C x v
structure Mth(C:Cx) where
 x:Str
 n:Nat
 a:dv
 r0:Nat
 g:CF
 cv:CV C r0 (.ref a) g
 hm:fC.contains (x,a)=ak
structure Kti(C:Cx) where
 K:ItK C
 fi:EF->IF K
 ok:∀ {r env e f},EV C r env e f->IV K r env e (fi f)
 re:iP K
 tg:∀ t,K.tg t
structure DX(C:Cx) where
 smc:SMC C
 T:ae (Fn C)
 M:ae (Mth C)
 kt:Expr->Kti C
 fr:vi
 km:KMx C fr
 en:Glo C "enumerate" (.type "enumerate")
 sys:∃ o,C.base.heap.get? pd=aa o
 xe:∀ {r:Nat} (d:dEt C r) (t:dTt C r) (κ:Kn) (e:Expr),aj (RE C r κ e)
 xt:∀ {r:Nat} (d:dEt C r) (κ:Kn) (e:Expr),aj (RT C r κ e)
def dCo(κ:Kn)(c:Const)(k:Nat)(p:Pos):aj (RE C r κ (.Constant c k p)):=have pf:Pf (.Constant c k p):=gQ rfl
 onN c.ctorIdx 2 (λh=>Const.int.elim (motive:=λc=>Pf (.Constant c k p)->aj (RE C r κ (.Constant c k p))) c h (λi pf=>aa ⟨eK (.int i),λq q=>EV.int,pf⟩) pf) <|
 onN c.ctorIdx 5 (λh=>Const.str.elim (motive:=λc=>Pf (.Constant c k p)->aj (RE C r κ (.Constant c k p))) c h (λi pf=>aa ⟨eK (.str i),λq q=>EV.str,pf⟩) pf) <|
 onN c.ctorIdx 1 (λh=>Const.bool.elim (motive:=λc=>Pf (.Constant c k p)->aj (RE C r κ (.Constant c k p))) c h (λi pf=>aa ⟨eK (.bool i),λq q=>EV.bool,pf⟩) pf) <|
 onN c.ctorIdx 0 (λh=>Const.none.elim (motive:=λc=>Pf (.Constant c k p)->aj (RE C r κ (.Constant c k p))) c h (λpf=>aa ⟨eK .none,λq q=>EV.none,pf⟩) pf) none
def nmK(κ:Kn)(x:Str):fq:=(match κ x with |some .local=>ak |some .cell=>ak |some .free=>ak |_=>am) && !(x==("__debug__" :Str)) && !(x==("__classdict__" :Str))
theorem KE.nm(k:KE κ env)(h:nmK κ x=ak):nmL env x=ak:=by unfold nmL;exact rwL k.kd h
def glK(κ:Kn)(x:Str):fq:=κ x==aa .globalImplicit && !(x==("__debug__" :Str))
theorem KE.gl(k:KE κ env)(h:glK κ x=ak):env.kindOf x=aa .globalImplicit/\(x==("__debug__" :Str))=am:=have h2:=dp.mp h
 ⟨rwL k.kd (uh h2.1),Bool.not_eq_true' _ |>.mp h2.2⟩
def dEs(d:dEt C r)(κ:Kn)(es:ae Expr):aj (Pk EFs (EsP C r κ es)):=es.rec
 (aa ⟨esN,λq q=>EVs.nil,λq=>⟨.inl rfl,λq=>rfl⟩⟩)
 λe es ih=>bd (d κ e) λf h=>bd ih λg hs=>aa ⟨esC f g,λq k=>EVs.cons (h.ok k) (hs.ok k) (h.pf.star _ _),λenv=>⟨.inr ⟨e,es,rfl,h.pf.star _ _⟩,λpos=>by rw[h.pf.star];exact(hs.fl env).2 pos⟩⟩
theorem EsP.al(h:EsP C r κ es f)(env:Env)(pos:Pos):(mq pos (eh es env)).all (λx=> !x.1)=ak:=by
 rw[<-List.not_any_eq_all_not,(h.fl env).2];rfl
def opP(C:Cx)(r:Nat)(op:Operator)(g:OpF):Prop:=OpR C r (tj op) g
def dOp(op:Operator):aj (Pk OpF (opP C r op)):=op.casesOn (motive:=λop=>aj (Pk OpF (opP C r op))) (aa ⟨aH,OpR.add⟩) (aa ⟨cP,OpR.sub⟩) (aa ⟨lT,OpR.mul⟩) none none (aa ⟨kV,OpR.mod⟩) none none none none none none (aa ⟨tU,OpR.div⟩)
def cmP(C:Cx)(r:Nat)(op:CmpOp)(g:OpF):Prop:=OpR C r (jx op) g
def dCm(op:CmpOp):aj (Pk OpF (cmP C r op)):=op.casesOn (motive:=λop=>aj (Pk OpF (cmP C r op))) (aa ⟨bG id,OpR.eq⟩) (aa ⟨bG not,OpR.ne⟩) (aa ⟨bA λx y=>decide (x<y),OpR.lt⟩) (aa ⟨bA λx y=>decide (x<=y),OpR.le⟩) (aa ⟨bA λx y=>decide (x>y),OpR.gt⟩) (aa ⟨bA λx y=>decide (x>=y),OpR.ge⟩) (aa ⟨oIs id,OpR.is_⟩) (aa ⟨oIs not,OpR.isNot⟩) (aa ⟨oIn id,OpR.in_⟩) (aa ⟨oIn not,OpR.notIn⟩)
def fnd(x:Str)(n:Nat)(l:ae (Fn C)):aj (Pk (Fn C) λt=>t.x=x):=l.rec none λt q ih=>onS t.x x (λh=>bif t.n.beq 99 || t.n.beq n then aa ⟨t,h⟩ else ih) ih
def fndM(x:Str)(n:Nat)(l:ae (Mth C)):aj (Pk (Mth C) λt=>t.x=x):=l.rec none λt q ih=>onS t.x x (λh=>bif t.n.beq 99 || t.n.beq n then aa ⟨t,h⟩ else ih) ih
theorem mshape(p:Pf o)(hc:o.ctorIdx.beq 16=am)(al:EsP C r κ as f)(hl:as.length.blt 30=ak)(hk:(ap.endLine==pos.line)=ak):gK env o x ap pos as:=⟨p.nb hc _ _,by rw[al.al];exact ay (jp hl),hk⟩
theorem bk1(p:Pf e)(env:Env)(pos:Pos):mq pos (eh [e] env)= [(am,jl e env)]:=by rw[p.star];rfl
theorem bk2(p:Pf e)(q:Pf e2)(env:Env)(pos:Pos):mq pos (eh [e,e2] env)= [(am,jl e env),(am,jl e2 env)]:=by rw[p.star,q.star];rfl
theorem pfC:Pf (.Call f as ks p):=gQ rfl
theorem es1(h:EP C r κ e f):EsP C r κ [e] (esC f esN):=⟨λq k=>EVs.cons (h.ok k) EVs.nil (h.pf.star _ _),λenv=>⟨.inr ⟨e,_,rfl,h.pf.star _ _⟩,λpos=>by rw[h.pf.star];rfl⟩⟩
theorem es0:EsP C r κ [] esN:=⟨λq q=>EVs.nil,λq=>⟨.inl rfl,λq=>rfl⟩⟩
theorem es2(h:EP C r κ e f)(h2:EP C r κ e2 f2):EsP C r κ [e,e2] (esC f (esC f2 esN)):=⟨λq k=>EVs.cons (h.ok k) ((es1 h2).ok k) (h.pf.star _ _),λenv=>⟨.inr ⟨e,_,rfl,h.pf.star _ _⟩,λpos=>by rw[h.pf.star];exact((es1 h2).fl env).2 pos⟩⟩
def dMe(D:DX C)(d:dEt C r)(κ:Kn)(o:Expr)(m:Str)(ap:Pos)(as:ae Expr)(pos:Pos)(f:EF)(h:EP C r κ o f)(hc:o.ctorIdx.beq 16=am)(hk:(ap.endLine==pos.line)=ak):aj (RE C r κ (.Call (.Attribute o m ap) as [] pos)):=orE (onS m "append" (λq=>as.casesOn none λe z=>z.casesOn (bd (d κ e) λf2 h2=>aa ⟨b9 f f2,λa k=>by subst q;exact EV.append (h.ok k) (h2.ok k) (mshape h.pf hc (es1 h2) rfl hk) (bk1 h2.pf _ _),pfC⟩) λa a=>none) <|
  onS m "pop" (λq=>as.casesOn (aa ⟨wA f,λa k=>by subst q;exact EV.pop (h.ok k) (mshape h.pf hc (es0 (C:=C) (r:=r) (κ:=κ)) rfl hk),pfC⟩) λa a=>none) <|
  onS m "setdefault" (λq=>as.casesOn none λe z=>z.casesOn none λe2 z=>z.casesOn (bd (d κ e) λf2 h2=>bd (d κ e2) λf3 h3=>aa ⟨yH f f2 f3,λa k=>by subst q;exact EV.setdefault D.sys (h.ok k) (h2.ok k) (h3.ok k) (mshape h.pf hc (es2 h2 h3) rfl hk) (bk2 h2.pf h3.pf _ _),pfC⟩) λa a=>none) <|
  onS m "get" (λq=>as.casesOn none λe z=>z.casesOn none λe2 z=>z.casesOn (bd (d κ e) λf2 h2=>bd (d κ e2) λf3 h3=>aa ⟨eGet f f2 f3,λa k=>by subst q;exact EV.get D.sys (h.ok k) (h2.ok k) (h3.ok k) (mshape h.pf hc (es2 h2 h3) rfl hk) (bk2 h2.pf h3.pf _ _),pfC⟩) λa a=>none) none) <|
 bd (dEs d κ as) λg hs=>bd (fndM m as.length D.M) λt te=>onB (t.r0.ble r) λhr=>onB (as.length.blt 30) λhl=>aa ⟨dJ t.g f g,λa k=>EV.meth D.smc (te▸List.contains_iff_mem.mp t.hm) (t.cv.lift hr) (h.ok k) (hs.ok k) (hs.fl _) (mshape h.pf hc hs hl hk),pfC⟩
def dCl(D:DX C)(d:dEt C r)(κ:Kn)(fn:Expr)(as:ae Expr)(ks:ae yk)(pos:Pos):aj (RE C r κ (.Call fn as ks pos)):=ks.casesOn (onN fn.ctorIdx 23 (λq=>Expr.Name.elim fn q λx np=>orE
  (onB (nmK κ x) λhx=>bd (dEs d κ as) λg hs=>aa ⟨eCv (eN x) g,λa k=>EV.callV D.sys (EV.nm (k.nm hx)) (hs.ok k) (hs.fl _),pfC⟩) <|
  onB (glK κ x) λhg=>bd (dEs d κ as) λg hs=>bd (fnd x as.length D.T) λt te=>onB (t.r0.ble r) λhr=>aa ⟨aL t.g g,λa k=>EV.call (t.cv.lift hr) (te▸t.gl) (hs.ok k) (hs.fl _) (k.gl hg).1 (k.gl hg).2,pfC⟩) <|
 onN fn.ctorIdx 20 (λq=>Expr.Attribute.elim fn q λo m ap=>bd (d κ o) λf h=>onF (o.ctorIdx.beq 16) λhc=>onB (ap.endLine==pos.line) λhk=>dMe D d κ o m ap as pos f h hc hk) none) λa a=>none
def alP(C:Cx)(r:Nat)(κ:Kn)(op:BoolOp)(es:ae Expr)(f:TF):Prop:=∀ ⦃env:Env⦄,KE κ env->jU C r env op es f
def dAll(t:dTt C r)(κ:Kn)(op:BoolOp)(es:ae Expr):aj (Pk TF (alP C r κ op es)):=op.casesOn (motive:=λop=>aj (Pk TF (alP C r κ op es)))
 (es.rec (aa ⟨tK ak,λq q=>jU.and_nil⟩) λe es ih=>bd (t κ e) λf h=>bd ih λg hs=>aa ⟨aZ f g,λq k=>jU.and_cons (h k) (hs k)⟩)
 (es.rec (aa ⟨tK am,λq q=>jU.or_nil⟩) λe es ih=>bd (t κ e) λf h=>bd ih λg hs=>aa ⟨tOr f g,λq k=>jU.or_cons (h k) (hs k)⟩)
def dCmp{M:Expr->Type}(d:dEt C r)(κ:Kn)(l:Expr)(ops:ae CmpOp)(rs:ae Expr)(p:Pos)(w:∀ op e f g o,EP C r κ l f->EP C r κ e g->cmP C r op o->M (.Compare l [op] [e] p)):aj (M (.Compare l ops rs p)):=ops.casesOn none λop z=>z.casesOn (rs.casesOn none λe z=>z.casesOn (bd (d κ l) λf h=>bd (d κ e) λg h2=>bd (dCm (C:=C) (r:=r) op) λo ho=>aa (w op e f g o h h2 ho)) λq q=>none) λq q=>none
def dT1(D:DX C)(d:dEt C r)(t:dTt C r):dTt C r:=λκ e=>
 orE (onN e.ctorIdx 3 (λq=>Expr.UnaryOp.elim e q λop x p=>onN op.ctorIdx 1 (λq=>UnaryOp.Not.elim (motive:=λop=>aj (RT C r κ (.UnaryOp op x p))) op q <| bd (t κ x) λf h=>aa ⟨y6 f,λa k=>TV.not (h k)⟩) none) <|
  onN e.ctorIdx 0 (λq=>Expr.BoolOp.elim e q λop vs p=>bd (dAll t κ op vs) λf h=>aa ⟨f,λa k=>TV.boolOp (h k)⟩) <|
  onN e.ctorIdx 15 (λq=>Expr.Compare.elim e q λl ops rs p=>dCmp d κ l ops rs p λop e f g o h h2 ho=>⟨tE (aA o f g),λa k=>TV.cmp1 (h.ok k) (h2.ok k) ho (h2.pf.beh _)⟩) <|
  onF (e.ctorIdx.beq 0 || e.ctorIdx.beq 3 || e.ctorIdx.beq 5 || e.ctorIdx.beq 15) λhs=>bd (d κ e) λf h=>aa ⟨tE f,λa k=>TV.val (h.ok k) (h.pf.tv hs _)⟩) <| D.xt d κ e
def dTi(D:DX C)(n:Nat)(d:dEt C r):dTt C r:=n.rec (λq q=>none) λq ih=>dT1 D d ih
structure RIt(C:Cx)(r:Nat)(κ:Kn)(e:Expr) where
 K:ItK C
 fi:IF K
 ok:∀ ⦃env:Env⦄,KE κ env->IV K r env e fi
 re:iP K
 b:fq
 tg:∀ t,(b || t.ctorIdx.beq 25)=ak->K.tg t
 nd:K.need<=r
 fold:∀ env x,iw e env x=pure x
def dEn(D:DX C)(d:dEt C r)(κ:Kn)(e:Expr):aj (RIt C r κ e):=onN e.ctorIdx 16 (λq=>Expr.Call.elim e q λfn as ks pos=>
 ks.casesOn (as.casesOn none λa z=>z.casesOn (onN fn.ctorIdx 23 (λq=>Expr.Name.elim fn q λx np=>
  onS x "enumerate" (λhx=>onB (glK κ "enumerate") λhg=>bd (d κ a) λf h=>aa ⟨oQ C,iL f,λb k=>by subst hx;exact IV.enum (h.ok k) D.en (k.gl hg).1 ((es1 h).fl _) (h.pf.star _ _),iP.enum,am,
   λt ht=>Expr.Tuple.elim t (Nat.eq_of_beq_eq_true ht) λb b b=>⟨_,_,_,rfl⟩,jo _,λb b=>rfl⟩) none) none) λb b=>none) λb b=>none) none
def dIi(D:DX C)(d:dEt C r)(κ:Kn)(e:Expr):aj (RIt C r κ e):=orE (dEn D d κ e) <| bd (d κ e) λf h=>onB ((D.kt e).K.need.ble r) λhn=>aa ⟨(D.kt e).K,(D.kt e).fi f,λq k=>(D.kt e).ok (h.ok k),(D.kt e).re,ak,λt q=>(D.kt e).tg t,jp hn,h.pf.fold⟩
structure AP(W:Env->dv->Prop)(C:Cx)(r:Nat)(κ:Kn)(e:Expr)(f:AF):Prop where
 ok:∀ ⦃env:Env⦄,KE κ env->AVW C W r env e f
 st:∀ ts env,fu (e::ts) env=(am,wt e env)::fu ts env
 s1:∀ v env,Pf v->(e.ctorIdx.beq 25 && v.ctorIdx.beq 25)=am->kq [e] v env=pure none
 s2:∀ t ts v env,kq (e::t::ts) v env=pure none
structure AsP(W:Env->dv->Prop)(C:Cx)(r:Nat)(κ:Kn)(es:ae Expr)(f:AFs):Prop where
 ok:∀ ⦃env:Env⦄,KE κ env->pU C W r env es f
 ln:∀ env,(fu es env).length=es.length
 nf:∀ env,(fu es env).findIdx? (·.1)=none
def dAs(a:∀ e,aj (Pk AF (AP W C r κ e)))(es:ae Expr):aj (Pk AFs (AsP W C r κ es)):=es.rec
 (aa ⟨asN,λq q=>pU.nil,λq=>rfl,λq=>rfl⟩)
 λe es ih=>bd (a e) λf h=>bd ih λg hs=>aa ⟨asC f g,λq k=>pU.cons (h.ok k) (hs.ok k) (h.st _ _),λenv=>by rw[h.st];exact ei (·+1) (hs.ln env),λenv=>by rw[h.st,List.findIdx?_cons,hs.nf];rfl⟩
def dLi(κ:Kn)(n:Nat):∀ e,aj (Pk AF (AP LW C r κ e)):=n.rec (λa=>none) λa ih e=>
 onN e.ctorIdx 23 (λq=>Expr.Name.elim e q λx p=>onB (κ x==aa .local) λh=>aa ⟨aN x,λa k=>ALV.name (by rw[k.kd];exact uh h),λa a=>rfl,λa a a a=>rfl,λa a a a=>rfl⟩) <|
 onN e.ctorIdx 25 (λq=>Expr.Tuple.elim e q λts k p=>bd (dAs ih ts) λf h=>aa ⟨sX ts.length f,λa k=>ALV.tuple (h.ok k) (h.ln _) (h.nf _),λa a=>rfl,λa a p n=>p.nt n _ _ _ _,λa a a a=>rfl⟩) none
def stK(κ:Kn)(x:Str):fq:=match κ x with |some .local=>ak |some .cell=>ak |_=>am
theorem KE.st(k:KE κ env){l:ae Str}(h:l.all (stK κ)=ak):∀ x∈l,env.kindOf x=aa .local\/env.kindOf x=aa .cell:=nms_ok (by cases k.kd;exact h)
theorem KE.s_(k:KE κ env)(h:stK κ x=ak):env.kindOf x=aa .local\/env.kindOf x=aa .cell:=k.st (l:=[x]) (by show(stK κ x && ak)=ak;rw[Bool.and_true];exact h) x (.head _)
def dA(D:DX C)(d:dEt C r)(κ:Kn)(n:Nat):∀ e,aj (Pk AF (AP Wr C r κ e)):=n.rec (λc=>none) λc ih e=>
 onN e.ctorIdx 23 (λq=>Expr.Name.elim e q λx p=>onB (stK κ x) λh=>aa ⟨aN x,λc k=>AV.name (k.s_ h),λc c=>rfl,λc c c c=>rfl,λc c c c=>rfl⟩) <|
 onN e.ctorIdx 25 (λq=>Expr.Tuple.elim e q λts k p=>bd (dAs ih ts) λf h=>aa ⟨cZ ts.length f,λc k=>AV.tupleM D.km (h.ok k) (h.ln _) (h.nf _),λc c=>rfl,λc c p n=>p.nt n _ _ _ _,λc c c c=>rfl⟩) <|
 onN e.ctorIdx 21 (λq=>Expr.Subscript.elim e q λa b p=>bd (d κ a) λf h=>bd (d κ b) λg h2=>aa ⟨l8 f g,λc k=>AV.sub (h.ok k) (h2.ok k),λc c=>rfl,λc c c c=>rfl,λc c c c=>rfl⟩) <|
 onN e.ctorIdx 20 (λq=>Expr.Attribute.elim e q λa x p=>bd (d κ a) λf h=>onB (c7.contains x) λhx=>aa ⟨eU x f,λc k=>AV.attr D.smc (List.contains_iff_mem.mp hx) (h.ok k),λc c=>rfl,λc c c c=>rfl,λc c c c=>rfl⟩) none
def cKi(κ:Kn)(sc:vn):Kn:=λx=>(sc.names.lookup x).map λk=>if (k== .free && ScopeKind.function==ScopeKind.function && κ x==aa .cell)=ak then .cell else k
theorem KE.comp(k:KE κ env)(h:sc.kind= .function)(L:dv):KE (cKi κ sc) (gY env sc L):=⟨by
 funext x
 rw[jT]
 unfold vQ cKi
 exact rwL k.sk (rwL k.kd rfl),h⟩
def hidOf(sc:vn):ae Str:=sc.names.filterMap λp=>if (p.2== .local)=ak then aa p.1 else none
def csK(κ:Kn)(sc:vn)(hid:ae Str):fq:=decide (sc.kind= .function) && ((sc.names.all λp=>p.2 != .cell) && ((sc.names.all λp=>p.2 != .free || (κ p.1==aa .cell)) && ((sc.names.all λp=>p.2 != .local || (sc.names.lookup p.1==aa .local && hid.contains p.1)) && (hid.all λx=>sc.names.lookup x != aa .free))))
theorem KE.cs(k:KE κ env)(h:csK κ sc hid=ak):l9 env sc hid/\(hid.all λx=>sc.names.lookup x != aa .free)=ak:=have a:=dp.mp h
 have b:=dp.mp a.2
 have c:=dp.mp b.2
 have e:=dp.mp c.2
 ⟨⟨dx a.1,b.1,rwL k.kd c.1,e.1⟩,e.2⟩
theorem cm_eq{g:ow}(h:g.is_async=0):g=⟨g.target,g.iter,g.ifs,0⟩:=by
 cases g
 subst h
 rfl
def cnP(C:Cx)(r:Nat)(κ:Kn)(cs:ae Expr)(f:TF):Prop:=∀ ⦃env:Env⦄,KE κ env->CnV C r env cs f
def dCn(t:dTt C r)(κ:Kn)(cs:ae Expr):aj (Pk TF (cnP C r κ cs)):=cs.rec (aa ⟨tK ak,λq q=>CnV.nil⟩) λe es ih=>bd (t κ e) λf h=>bd ih λg hs=>aa ⟨aZ f g,λq k=>CnV.cons (h k) (hs k)⟩
def bP(C:Cx)(r:Nat)(κ:Kn)(elt:Expr)(gens:ae ow)(sc:vn)(pos:Pos)(j:Nat)(f:BF):Prop:=∀ ⦃env:Env⦄,KE κ env->BV C r env elt gens sc pos j f
def dBi(D:DX C)(d:dEt C r)(t:dTt C r)(κ:Kn)(elt:Expr)(gens:ae ow)(sc:vn)(pos:Pos)(n:Nat):∀ j,aj (Pk BF (bP C r κ elt gens sc pos j)):=n.rec (λq=>none) λq ih j=>
 Option.rec (motive:=λo=>gens[j+1]? =o->aj (Pk BF (bP C r κ elt gens sc pos j))) (λhg=>bd (d κ elt) λf h=>aa ⟨cD f,λq k=>BV.last (h.ok k) hg⟩)
  (λg hg=>(dIi D d κ g.iter).rec none λR=>bd (dLi (C:=C) (r:=r) κ 4 g.target) λta ht=>bd (dCn t κ g.ifs) λc hc=>bd (ih (j+1)) λbf hb=>onB (R.b || g.target.ctorIdx.beq 25) λhT=>if ha:g.is_async=0 then
   aa ⟨qW R.K R.fi ta c bf,λq k=>BV.more (hg.trans (ei aa (cm_eq ha))) R.re (R.ok k) (ht.ok k) (hc k) (hb k) ⟨R.tg _ hT,R.nd⟩ (R.fold _)⟩ else none) gens[j+1]? rfl
structure CP(C:Cx)(r:Nat)(κ:Kn)(elt:Expr)(gens:ae ow)(sc:vn)(pos:Pos)(f:EF):Prop where
 ok:∀ ⦃env:Env⦄,KE κ env->EV C r env (.ListComp elt gens sc pos) f
 as:∀ ⦃env:Env⦄{x:Str}{p q:Pos},KE κ env->env.kindOf x=aa .local->uf (.ListComp elt gens sc pos) (aa (.Name x p)) q.line env=pure ak->SV C r env (.Assign [.Name x p] (.ListComp elt gens sc pos) q) (aY x f)
def dC(D:DX C)(d:dEt C r)(t:dTt C r)(κ:Kn)(elt:Expr)(gens:ae ow)(sc:vn)(pos:Pos):aj (Pk EF (CP C r κ elt gens sc pos)):=gens.casesOn none λg gs=>g.casesOn λgt gi gf ga=>onB (csK κ sc (hidOf sc)) λhc=>
 (dIi D d κ gi).rec none λR=>bd (dLi (C:=C) (r:=r) (cKi κ sc) 4 gt) λta ht=>bd (dCn t (cKi κ sc) gf) λc hcn=>bd (dBi D d t (cKi κ sc) elt (⟨gt,gi,gf,0⟩::gs) sc pos 4 0) λbf hb=>onB (R.b || gt.ctorIdx.beq 25) λhT=>if ha:ga=0 then
  aa ⟨fK R.K (hidOf sc) R.fi ta c bf,ha.symm▸⟨λa k=>have q:=k.comp (k.cs hc).1.kind;EV.comp (k.cs hc).1 (k.cs hc).2 R.re (R.ok k) (λL=>ht.ok (q L)) (λL=>hcn (q L)) (λL=>hb (q L)) ⟨R.tg _ hT,R.nd⟩ (R.fold _),
   λa a a a k hx hs=>have q:=k.comp (k.cs hc).1.kind;SV.assignC hx hs (k.cs hc).1 (k.cs hc).2 R.re (R.ok k) (λL=>ht.ok (q L)) (λL=>hcn (q L)) (λL=>hb (q L)) ⟨R.tg _ hT,R.nd⟩ (R.fold _)⟩⟩ else none
theorem nm_cl{e:Expr}(h:e.ctorIdx.beq 23=ak):e.ctorIdx.beq 16=am:=by refine rwL (Nat.eq_of_beq_eq_true h) ?_;rfl
def dAt(D:DX C)(d:dEt C r)(κ:Kn)(a:Expr)(x:Str)(p:Pos):aj (RE C r κ (.Attribute a x p)):=have pf:Pf (.Attribute a x p):=gQ rfl
 bd (d κ a) λf h=>orE (onB (a.ctorIdx.beq 23) λhn=>orE
   (onB (c7.contains x) λhx=>aa ⟨eP x f,λq k=>EV.attr D.smc (List.contains_iff_mem.mp hx) (h.ok k) (h.pf.nb (nm_cl hn) _ _) (h.pf.lg hn),pf⟩)
   (onS x "get" (λhx=>aa ⟨eBd .dget okD f,λq k=>by subst hx;exact EV.dget (h.ok k) (h.pf.nb (nm_cl hn) _ _) (h.pf.lg hn),pf⟩) none)) <|
  onF (a.ctorIdx.beq 16) λhc=>onS x "__contains__" (λhx=>aa ⟨eBd .scon okS f,λq k=>by subst hx;exact EV.scon2 (h.ok k) (h.pf.nb hc _ _),pf⟩) none
def dE1(D:DX C)(d:dEt C r):dEt C r:=λκ e=>orE
 (onN e.ctorIdx 23 (λq=>Expr.Name.elim e q λx p=>onB (nmK κ x) λh=>aa ⟨eN x,λj k=>EV.nm (k.nm h),gQ rfl⟩) <|
 onN e.ctorIdx 19 (λq=>Expr.Constant.elim e q λc k p=>dCo κ c k p) <|
 onN e.ctorIdx 2 (λq=>Expr.BinOp.elim e q λa op b p=>bd (d κ a) λf h=>bd (d κ b) λg h2=>bd (dOp (C:=C) (r:=r) op) λo ho=>aa ⟨aA o f g,λj k=>EV.binOp (h.ok k) (h2.ok k) ho,gQ rfl⟩) <|
 onN e.ctorIdx 21 (λq=>Expr.Subscript.elim e q λa b p=>bd (d κ a) λf h=>bd (d κ b) λg h2=>aa ⟨aA aQ f g,λj k=>EV.idx (h.ok k) (h2.ok k) λo i=>⟨_,h2.pf.sub o i⟩,gQ rfl⟩) <|
 onN e.ctorIdx 15 (λq=>Expr.Compare.elim e q λl ops rs p=>dCmp d κ l ops rs p λop e f g o h h2 ho=>⟨aA o f g,λj k=>EV.cmp1 (h.ok k) (h2.ok k) ho (h2.pf.beh _),gQ rfl⟩) <|
 onN e.ctorIdx 3 (λq=>Expr.UnaryOp.elim e q λop a p=>onN op.ctorIdx 3 (λq=>UnaryOp.USub.elim (motive:=λop=>aj (RE C r κ (.UnaryOp op a p))) op q <| bd (d κ a) λf h=>aa ⟨dM f,λj k=>EV.neg (h.ok k),gQ rfl⟩) none) <|
 onN e.ctorIdx 25 (λq=>Expr.Tuple.elim e q λes k p=>bd (dEs d κ es) λf h=>aa ⟨bE f,λj k=>EV.tuple (h.ok k),gQ rfl⟩) <|
 onN e.ctorIdx 24 (λq=>Expr.List.elim e q λes p=>bd (dEs d κ es) λf h=>aa ⟨bU f,λj k=>EV.list (h.ok k),gQ rfl⟩) <|
 onN e.ctorIdx 6 (λq=>Expr.Dict.elim e q λks vs p=>ks.casesOn (vs.casesOn (aa ⟨qR,λj j=>EV.dict0,gQ rfl⟩) λj j=>none) λj j=>none) <|
 onN e.ctorIdx 20 (λq=>Expr.Attribute.elim e q λa x p=>dAt D d κ a x p) <|
 onN e.ctorIdx 8 (λq=>Expr.ListComp.elim e q λelt gs sc p=>bd (dC D d (dTi D 9 d) κ elt gs sc p) λf h=>aa ⟨f,h.ok,gQ rfl⟩) <|
 onN e.ctorIdx 16 (λq=>Expr.Call.elim e q λfn as ks p=>dCl D d κ fn as ks p) none) <| D.xe d (dTi D 9 d) κ e
def dE(D:DX C)(n:Nat):dEt C r:=n.rec (λq q=>none) λq ih=>dE1 D ih
def SP(C:Cx)(r:Nat)(κ:Kn)(st:jz)(f:SF):Prop:=∀ ⦃env:Env⦄,KE κ env->SV C r env st f
def SsP(C:Cx)(r:Nat)(κ:Kn)(st:ae jz)(f:SF):Prop:=∀ ⦃env:Env⦄,KE κ env->SVs C r env st f
noncomputable abbrev dSt(C:Cx)(r:Nat):=∀ (κ:Kn) (st:jz),aj (Pk SF (SP C r κ st))
theorem KE.ia(k:KE κ env):tm env=am:=by unfold tm;refine rwL k.sk ?_;rfl
def swK(κ:Kn)(x:Str)(a b:Nat)(sc:vn):fq:=ScopeKind.function==ScopeKind.function && κ x==aa .local && a==b && !(sc.names.any fun(n,k)=>n==x && (k== .local || k== .cell))
theorem KE.bk(k:KE κ env):env.blockKind= .function:=by unfold Env.blockKind;refine rwL k.sk ?_;rfl
theorem KE.sw(k:KE κ env):uf (.ListComp elt gs sc q) (aa (.Name x p)) l env=pure (swK κ x p.line q.line sc):=by
 show pure (env.blockKind== .function && env.kindOf x==aa .local && p.line==q.line && !(sc.names.any fun(n,k)=>n==x && (k== .local || k== .cell)))=_
 refine rwL k.bk (rwL k.kd ?_);rfl
theorem aFu{a b:Nat}(h:swK κ x a b sc=ak):κ x=aa .local:=uh (dp.mp (dp.mp (dp.mp h).1).1).2
def isSt(e:Expr):fq:=swappedStores.match_5 (λq=>fq) e (λq q=>ak) λq=>am
def nms(κ:Kn)(ts:ae Expr):ae Str:=ts.filterMap λx=>swappedStores.match_8 (λq=>aj Str) x (λid pos=>if κ id==aa .local && pos.line==(ts.head?.map (·.pos.line)).getD 0 then aa id else none) λq=>none
def w1(ts vs:ae Expr):fq:= !(ts.length==2 || ts.length==3) || vs.length != ts.length || ScopeKind.function != ScopeKind.function
def w2(κ:Kn)(ts:ae Expr):fq:=(nms κ ts).length != ts.length || (nms κ ts).eraseDups.length != (nms κ ts).length
theorem itT{α:Type}{a b:fq}{x y:α}(h:(a || b)=ak)(k:b=ak->y=x):(if a=ak then x else y)=x:=by
 cases a with
 |true=>rfl
 |false=>exact k h
theorem itF{α:Type}{a b:fq}{x y z:α}(h:(a || b)=am)(k:b=am->y=z):(if a=ak then x else y)=z:=by
 cases a with
 |true=>cases h
 |false=>exact k h
theorem KE.s0(k:KE κ env)(h:(w1 ts vs || (vs.any isSt || (w2 κ ts || vs.all (vj 8))))=ak):kq [.Tuple ts n p] (.Tuple vs m q) env=pure none:=by
 cases k.kd
 unfold kq
 exact rwL k.bk (itT h λh=>itT h λh=>itT h λh=>bo h)
theorem KE.s1(k:KE κ env)(h:(w1 ts vs || (vs.any isSt || (w2 κ ts || (vs.all (vj 8) || vs.all (constantsAlone 8)))))=am):kq [.Tuple ts n p] (.Tuple vs m q) env=pure (aa (nms κ ts)):=by
 cases k.kd
 unfold kq
 exact rwL k.bk (itF h λh=>itF h λh=>itF h λh=>itF h λh=>bc (by exact rwL h Bool.false_ne_true))
def dAg(D:DX C)(d:dEt C r)(κ:Kn)(t e:Expr)(pos:Pos):aj (Pk SF (SP C r κ (.Assign [t] e pos))):=bd (d κ e) λf h=>onF (e.ctorIdx.beq 8) λhl=>bd (dA D d κ 4 t) λg hg=>onF (t.ctorIdx.beq 25 && e.ctorIdx.beq 25) λht=>
 aa ⟨cE f g,λq k=>SV.assigns (h.ok k) (ALs.one (hg.ok k) (by rw[hg.st];rfl)) (h.pf.sw hl _ _ _) (hg.s1 _ _ h.pf ht)⟩
def dAn(D:DX C)(d:dEt C r)(κ:Kn)(x:Str)(p:Pos)(e:Expr)(pos:Pos):aj (Pk SF (SP C r κ (.Assign [.Name x p] e pos))):=onB (stK κ x) λhs=>orE
 (onN e.ctorIdx 8 (λq=>Expr.ListComp.elim e q λelt gs sc q=>bd (dC D d (dTi D 9 d) κ elt gs sc q) λf h=>
  aa ⟨aY x f,λa k=>(Bool.eq_false_or_eq_true (swK κ x p.line q.line sc)).elim (λhw=>h.as k (by rw[k.kd];exact aFu hw) (by rw[k.sw,hw])) λhw=>SV.assign (h.ok k) (k.s_ hs) (by rw[k.sw,hw])⟩) none) <|
 bd (d κ e) λf h=>onF (e.ctorIdx.beq 8) λhl=>aa ⟨aY x f,λa k=>SV.assign (h.ok k) (k.s_ hs) (h.pf.sw hl _ _ _)⟩
def dAt2(D:DX C)(d:dEt C r)(κ:Kn)(ts vs:ae Expr)(n m:Nat)(p q:Pos)(pos:Pos):aj (Pk SF (SP C r κ (.Assign [.Tuple ts n p] (.Tuple vs m q) pos))):=bd (d κ (.Tuple vs m q)) λf h=>orE
 (onB (w1 ts vs || (vs.any isSt || (w2 κ ts || vs.all (vj 8)))) λh1=>bd (dA D d κ 4 (.Tuple ts n p)) λg hg=>aa ⟨cE f g,λenv k=>SV.assigns (h.ok k) (ALs.one (hg.ok k) (by rw[hg.st];rfl)) (h.pf.sw rfl (aa (.Tuple ts n p)) pos.line env) (k.s0 h1)⟩) <|
 onF (w1 ts vs || (vs.any isSt || (w2 κ ts || (vs.all (vj 8) || vs.all (constantsAlone 8))))) λh2=>onB ((nms κ ts).all (stK κ)) λh3=>aa ⟨cS (nms κ ts) f,λenv k=>SV.swap (h.ok k) (h.pf.sw rfl (aa (.Tuple ts n p)) pos.line env) (k.s1 h2) (k.st h3)⟩
structure HP(C:Cx)(r:Nat)(κ:Kn)(ts:ae Expr)(f:AF):Prop where
 ok:∀ ⦃env:Env⦄,KE κ env->ALs C r env ts f
 ne:∀ env,∃ x xs,(fu ts env).map (·.2)=x::xs
def dH(D:DX C)(d:dEt C r)(κ:Kn)(ts:ae Expr):∀ t,aj (Pk AF (HP C r κ (t::ts))):=ts.rec
 (λt=>bd (dA D d κ 4 t) λg h=>aa ⟨g,λq k=>ALs.one (h.ok k) (by rw[h.st];rfl),λq=>by rw[h.st];exact⟨_,_,rfl⟩⟩)
 λt2 ts ih t=>bd (dA D d κ 4 t) λg h=>bd (ih t2) λf hs=>aa ⟨iO g f,λenv k=>ALs.cons (h.ok k) (hs.ok k) (by rw[h.st];rfl) (hs.ne env),λq=>by rw[h.st];exact⟨_,_,rfl⟩⟩
def dA2(D:DX C)(d:dEt C r)(κ:Kn)(t t2:Expr)(ts:ae Expr)(e:Expr)(pos:Pos):aj (Pk SF (SP C r κ (.Assign (t::t2::ts) e pos))):=bd (d κ e) λf h=>bd (dA D d κ 4 t) λq h2=>bd (dH D d κ (t2::ts) t) λg hg=>aa ⟨cE f g,λq k=>SV.assigns (h.ok k) (hg.ok k) rfl (h2.s2 _ _ _ _)⟩
def dSs(s:dSt C r)(κ:Kn)(l:ae jz):aj (Pk SF (SsP C r κ l)):=l.rec (aa ⟨sK .next,λq q=>SVs.nil⟩) λe es ih=>bd (s κ e) λf h=>bd ih λg hs=>aa ⟨aB f g,λq k=>SVs.cons (h k) (hs k)⟩
def dS1(D:DX C)(s:dSt C r):dSt C r:=λκ st=>
 onN st.ctorIdx 5 (λq=>Stmt.Assign.elim st q λts e pos=>ts.casesOn none λt ts=>orE
  (ts.casesOn (onN t.ctorIdx 23 (λq=>Expr.Name.elim t q λx p=>dAn D (dE D 12) κ x p e pos) <| orE
   (onN t.ctorIdx 25 (λq=>Expr.Tuple.elim t q λts n p=>onN e.ctorIdx 25 (λq=>Expr.Tuple.elim e q λvs m q=>dAt2 D (dE D 12) κ ts vs n m p q pos) none) none) <|
   dAg D (dE D 12) κ t e pos) λd d=>none) <|
  ts.casesOn none λt2 ts=>dA2 D (dE D 12) κ t t2 ts e pos) <|
 onN st.ctorIdx 24 (λq=>Stmt.Expr.elim st q λe p=>orE
  (onN e.ctorIdx 19 (λq=>Expr.Constant.elim e q λc a b=>onN c.ctorIdx 5 (λq=>Const.str.elim (motive:=λc=>aj (Pk SF (SP C r κ (.Expr (.Constant c a b) p)))) c q λx=>aa ⟨sK .next,λd k=>SV.doc k.ia rfl⟩) none) none) <|
  bd (dE D 12 κ e) λf h=>onF (e.ctorIdx.beq 8) λhl=>aa ⟨aW f,λd k=>SV.expr (h.ok k) k.ia (h.pf.sw hl _ _ _)⟩) <|
 onN st.ctorIdx 12 (λq=>Stmt.If.elim st q λt a b p=>bd (dTi D 9 (dE D 12) κ t) λc hc=>bd (dSs s κ b) λg h2=>orE (bd (dSs s κ a) λf h=>aa ⟨sIf c f g,λd k=>SV.ite (hc k) (h k) (h2 k)⟩) <| some ⟨sIf c sNo g,λd k=>SV.ite (hc k) SVs.no (h2 k)⟩) <|
 onN st.ctorIdx 9 (λq=>Stmt.For.elim st q λt i b o p=>o.casesOn ((dIi D (dE D 12) κ i).rec none λR=>bd (dA D (dE D 12) κ 4 t) λg hg=>bd (dSs s κ b) λf h=>onB (R.b || t.ctorIdx.beq 25) λht=>aa ⟨g8 R.K R.fi g f,λd k=>SV.for_ (R.ok k) (hg.ok k) (h k) ⟨R.tg _ ht,R.nd⟩ (R.fold _)⟩) λd d=>none) <|
 onN st.ctorIdx 3 (λq=>Stmt.Return.elim st q λe p=>e.casesOn (aa ⟨sK (.ret .none),λd d=>SV.ret0⟩) λe=>bd (dE D 12 κ e) λf h=>aa ⟨i6 f,λd k=>SV.ret (h.ok k)⟩) <|
 onN st.ctorIdx 11 (λq=>Stmt.While.elim st q λt b o p=>o.casesOn (bd (dTi D 9 (dE D 12) κ t) λc hc=>bd (dSs s κ b) λf h=>aa ⟨j5 c f,λd k=>SV.while_ (hc k) (h k)⟩) λd d=>none) <|
 onN st.ctorIdx 7 (λq=>Stmt.AugAssign.elim st q λt op e pos=>onN op.ctorIdx 0 (λq=>Operator.Add.elim (motive:=λop=>aj (Pk SF (SP C r κ (.AugAssign t op e pos)))) op q <| onN t.ctorIdx 23 (λq=>Expr.Name.elim t q λx p=>bd (dE D 12 κ e) λf h=>onB (stK κ x) λhs=>onF (x==("__classdict__" :Str)) λhc=>aa ⟨zC x zF f,λd k=>SV.aug (h.ok k) OpR.iadd (k.s_ hs) hc⟩) none) none) <|
 onN st.ctorIdx 25 (λq=>Stmt.Pass.elim st q λp=>aa ⟨sK .next,λd d=>SV.pass⟩) <|
 onN st.ctorIdx 26 (λq=>Stmt.Break.elim st q λp=>aa ⟨sK .brk,λd d=>SV.brk⟩) <|
 onN st.ctorIdx 27 (λq=>Stmt.Continue.elim st q λp=>aa ⟨sK .cont,λd d=>SV.cont⟩) none
def dS(D:DX C)(n:Nat):dSt C r:=n.rec (λq q=>none) λq ih=>dS1 D ih
theorem dS_ok(D:DX C){st:jz}(k:env.scope.kind= .function)(h:gtO (dS (r:=r) D 9 env.kindOf st)=aa f):SV C r env st f:=tS h ⟨rfl,k⟩
theorem dB(D:DX C){st:ae jz}(k:env.scope.kind= .function)(h:gtO (dSs (r:=r) (dS D 9) env.kindOf st)=aa f):SVs C r env st f:=tS h ⟨rfl,k⟩
theorem aEc(D:DX C)(k:env.scope.kind= .function)(h:gtO (dE (r:=r) D 12 env.kindOf e)=aa f):EV C r env e f:=(tS h).ok ⟨rfl,k⟩
theorem aEa(D:DX C)(k:env.scope.kind= .function)(h:gtO (dTi (r:=r) D 9 (dE D 12) env.kindOf e)=aa f):TV C r env e f:=tS h ⟨rfl,k⟩
theorem dA_ok(D:DX C)(k:env.scope.kind= .function)(h:gtO (dA (r:=r) D (dE D 12) env.kindOf 4 e)=aa f):AV C r env e f:=(tS h).ok ⟨rfl,k⟩
def xIfE(d:dEt C r)(t:dTt C r)(κ:Kn)(e:Expr):aj (RE C r κ e):=onN e.ctorIdx 5 (λq=>Expr.IfExp.elim e q λc a b p=>bd (t κ c) λg h0=>bd (d κ a) λf h=>bd (d κ b) λf2 h2=>
 aa ⟨eIf g f f2,λi k=>EV.ifExp (h0 k) (h.ok k) (h2.ok k),gQ rfl⟩) none
def xMe(d:dEt C r)(κ:Kn)(e:Expr)(k:∀ o m ap as pos f,EP C r κ o f->o.ctorIdx.beq 16=am->(ap.endLine==pos.line)=ak->aj (RE C r κ (.Call (.Attribute o m ap) as [] pos))):aj (RE C r κ e):=onN e.ctorIdx 16 (λq=>Expr.Call.elim e q λfn as ks p=>ks.casesOn (onN fn.ctorIdx 20 (λq=>Expr.Attribute.elim fn q λo m ap=>bd (d κ o) λf h=>onF (o.ctorIdx.beq 16) λhc=>onB (ap.endLine==p.line) λhk=>k o m ap as p f h hc hk) none) λa a=>none) none
def xExt(d:dEt C r)(κ:Kn)(e:Expr):aj (RE C r κ e):=xMe d κ e λo m ap as pos f h hc hk=>onS m "extend" (λq=>as.casesOn none λe z=>z.casesOn (bd (d κ e) λf2 h2=>aa ⟨eExt f f2,λa k=>by subst q;exact EV.extend (h.ok k) (h2.ok k) (mshape h.pf hc (es1 h2) rfl hk) (bk1 h2.pf _ _),pfC⟩) λa a=>none) none
theorem XX.mf(X:XX C)(h:pa)(hk:∀ b o,C.base.heap.get? b=aa o->h.get? b=aa o):sZ C.M h:=mfacts X.kc X.km.bases (X.kc.mem.keeps hk)
def ktL:Kti C:=⟨bZ C,iL,IV.list,iP.list,λq=>trivial⟩
def ktR:Kti C:=⟨hF C,iR,IV.range,iP.range,λq=>trivial⟩
def kt0(e:Expr):Kti C:=(onN e.ctorIdx 23 (λq=>Expr.Name.elim e q λx a=>onS x "inner" (λa=>aa ktR) none) <| onN e.ctorIdx 16 (λq=>Expr.Call.elim e q λfn a a a=>onN fn.ctorIdx 23 (λq=>Expr.Name.elim fn q λx a=>onS x "range" (λa=>aa ktR) none) none) none).getD ktL
theorem pfN:Pf (.Name x p):=gQ rfl
def XX.xn(d:dEt C r)(t:dTt C r)(κ:Kn)(e:Expr):aj (RE C r κ e):=onN e.ctorIdx 16 (λq=>Expr.Call.elim e q λfn as ks p=>ks.casesOn (onN fn.ctorIdx 20 (λq=>Expr.Attribute.elim fn q λo m ap=>onN o.ctorIdx 23 (λq=>Expr.Name.elim o q λy np=>onS y "tuple" (λht=>onS m "__new__" (λhm=>
  onB (glK κ "tuple") λhg=>onB (ap.endLine==p.line) λhk=>onB (as.length.blt 30) λhl=>bd (dEs d κ as) λg hs=>aa ⟨yG g,λa k=>by subst ht hm;exact EV.tnew X.mf X.g_tuple (k.gl hg).1 (hs.ok k) (hs.fl _) (mshape pfN rfl hs hl hk),pfC⟩) none) none) none) none) λa a=>none) none
def fn0(x:Str)(cv:CV C r0 v g)(gl:Glo C x v)(n:Nat:=99):Fn C:=⟨x,n,v,r0,g,cv,gl⟩
def me0(x:Str){a:dv}(cv:CV C r0 (.ref a) g)(hm:fC.contains (x,a)=ak)(n:Nat:=99):Mth C:=⟨x,n,a,r0,g,cv,hm⟩
def XX.D2(T:ae (Fn C)):DX C:=⟨X.smc,T,[],kt0,_,X.km,X.g_enumerate,X.sys,X.xn,λq q q=>none⟩
def XX.Tb:ae (Fn C):=[fn0 (r0:=0) "len" (CV.lenM X.km) X.g_len,fn0 (r0:=0) "range" CV.range X.g_range,fn0 (r0:=0) "max" CV.max X.g_max,fn0 (r0:=0) "min" CV.min X.g_min,fn0 (r0:=0) "set" CV.set X.g_set]
def aG4(X:XX C):SF:=(sK .next)
def aG3(X:XX C):SF:=(i6 (yG (esC (eN "_cls") (esC (bE (esC (eN "a") (esC (eN "b") (esC (eN "size") esN)))) esN))))
def f_new:SF:=(aB (aG4 X) (aB (aG3 X) (sK .next)))
theorem sv_new(P:dr)(L:dv):SVs C 1 (ij (bB (o82 P)) L 82) (cX (stB 3 4)) (f_new X):=dB (X.D2 []) rfl ⋯
def aDo(X:XX C):SF:=(sK .next)
def aDn(X:XX C):SF:=(aY "result" (yG (esC (eN "cls") (esC (eN "iterable") esN))))
def aDm(X:XX C):SF:=(sIf (tE (aA (bG not) (aL bY (esC (eN "result") esN)) (eK (.int 3)))) sNo (sK .next))
def aDl(X:XX C):SF:=(i6 (eN "result"))
def f_make:SF:=(aB (aDo X) (aB (aDn X) (aB (aDm X) (aB (aDl X) (sK .next)))))
theorem aFv(P:dr)(L:dv):SVs C 1 (ij (bB (o89 P)) L 89) (cX (stB 3 5)) (f_make X):=dB (X.D2 X.Tb) rfl ⋯
theorem XX.newM(X:XX C):NewM C 2:=by
 intro A s ρ H a b c i j k hr S ra rb rc
 exact jI X.d_new ⋯ X.b_new (λq q=>.nil) (dL ⋯) (λL=>sv_new X X.w.params L) hr S (.cons (.raw _) (.cons ra (.cons rb (.cons rc .nil)))) ⟨rfl,(show _=(3<100/\(V.mat i j k=V.mat i j k/\H=H)) by rfl').mpr ⟨by decide,rfl,rfl⟩⟩
theorem XX.makeM(X:XX C):pQ C 2:=by
 intro A s ρ H a i j k hr S ra
 exact jI X.d_make ⋯ X.b_make (λq q=>.nil) (dL ⋯) (λL=>aFv X X.w.params L) hr S (.cons (.raw _) (.cons ra .nil)) ⟨rfl,(show _=(V.mat i j k=V.mat i j k/\H=H) by rfl').mpr ⟨rfl,rfl⟩⟩
theorem XX.cv_Match(X:XX C):CV C 3 (.ref aG) wL:=CV.mat X.kc X.newM
def XX.xm(d:dEt C r)(t:dTt C r)(κ:Kn)(e:Expr):aj (RE C r κ e):=r.casesOn (motive:=λr=>dEt C r->aj (RE C r κ e)) (λc=>none) (λr d=>onN e.ctorIdx 16 (λq=>Expr.Call.elim e q λfn as ks p=>ks.casesOn (orE
 (onN fn.ctorIdx 20 (λq=>Expr.Attribute.elim fn q λo m ap=>onS m "sort" (λhm=>as.casesOn (bd (d κ o) λf h=>onF (o.ctorIdx.beq 16) λhc=>onB (ap.endLine==p.line) λhk=>
  aa ⟨aD2 f,λc k=>by subst hm;exact EV.sort X.km (h.ok k) (mshape h.pf hc (es0 (C:=C) (r:=r) (κ:=κ)) rfl hk),pfC⟩) λc c=>none) none) none) <|
 onN fn.ctorIdx 23 (λq=>Expr.Name.elim fn q λl p1=>onS l "list" (λhl=>as.casesOn none λa z=>z.casesOn (onN a.ctorIdx 16 (λq=>Expr.Call.elim a q λg bs ks p5=>
  ks.casesOn (onN g.ctorIdx 23 (λq=>Expr.Name.elim g q λm p2=>onS m "map" (λhm=>bs.casesOn none λb z=>z.casesOn none λe z=>z.casesOn (onN b.ctorIdx 20 (λq=>Expr.Attribute.elim b q λo x p4=>onS x "_make" (λhx=>onN o.ctorIdx 23 (λq=>Expr.Name.elim o q λt p3=>onS t "Match" (λht=>
    onB (ble 3 r) λhr=>onB (glK κ "list") λg1=>onB (glK κ "map") λg2=>onB (glK κ "Match") λg3=>bd (d κ e) λf h=>aa ⟨eLM (rS C 2 X.makeM) (λi=>(i,0)) f,λc k=>by
     subst hl hm ht hx
     exact EV.listMap X.kc X.makeM (jp hr) (h.ok k) X.g_list X.g_map X.g_Match (k.gl g1).1 (k.gl g2).1 (k.gl g3).1 rfl rfl (h.pf.star _ _) (λc=>rfl) (λc=>by show(am || (mq _ (eh [e] _)).any (·.1))=am;rw[h.pf.star];rfl) rfl (λc c=>rfl),pfC⟩) none) none) none) none) λc c=>none) none) none) λc c=>none) none) λc c=>none) none) none) λc c=>none) none) d
def XX.D0(M:ae (Mth C)):DX C:=⟨X.smc,fn0 "Match" X.cv_Match X.g_Match::X.Tb,M,kt0,_,X.km,X.g_enumerate,X.sys,X.xm,λq q q=>none⟩
def sO(X:XX C):SF:=(sK .next)
def sN(X:XX C):SF:=(sIf (tE (aA (oIs id) (eN "a") (eP "a" (eN "self")))) (aB (sK (.ret .none)) (sK .next)) (sK .next))
def sL(X:XX C):SF:=(cE (eN "a") (eU "a" (eN "self")))
def sJ(X:XX C):SF:=(cE (eK .none) (iO (eU "matching_blocks" (eN "self")) (eU "opcodes" (eN "self"))))
def pE:SF:=(aB (sO X) (aB (sN X) (aB (sL X) (aB (sJ X) (sK .next)))))
theorem tG(P:dr)(L:dv):SVs C 1 (ij (bB (o174 P)) L 174) (cX (stB 5 3)) (pE X):=dB (X.D0 []) rfl ⋯
def iN:CF:=kQ ["self","a"] [] (pE X)
theorem uV:CV C 2 (.ref 174) (iN X):=CV.def_ X.d_set_seq1 ⋯ X.b_set_seq1 (λq q=>.nil) (dL ⋯) (λL=>tG X X.w.params L)
def XX.M_set_seq1:ae (Mth C):=me0 "set_seq1" (uV X) rfl::[]
def uP(X:XX C):SF:=(aY "b" (eP "b" (eN "self")))
def uO(X:XX C):SF:=(cE qR (iO (eU "b2j" (eN "self")) (aN "b2j")))
def uN(X:XX C):SF:=(g8 (oQ C) (iL (eN "b")) (cZ 2 (asC (aN "i") (asC (aN "elt") asN))) (aB (aY "indices" (yH (eN "b2j") (eN "elt") (bU esN))) (aB (aW (b9 (eN "indices") (eN "i"))) (sK .next))))
def mK(X:XX C):SF:=(cE (aL cSet esN) (iO (eU "bjunk" (eN "self")) (aN "junk")))
def mJ(X:XX C):SF:=(aY "isjunk" (eP "isjunk" (eN "self")))
def mI(X:XX C):SF:=(sIf (tE (eN "isjunk")) sNo (sK .next))
def mH(X:XX C):SF:=(cE (aL cSet esN) (iO (eU "bpopular" (eN "self")) (aN "popular")))
def mG(X:XX C):SF:=(aY "n" (aL bY (esC (eN "b") esN)))
def mF(X:XX C):SF:=(sIf (aZ (tE (eP "autojunk" (eN "self"))) (aZ (tE (aA (bA λx y=>decide (x>=y)) (eN "n") (eK (.int 200)))) (tK ak))) sNo (sK .next))
def qO:SF:=(aB (uP X) (aB (uO X) (aB (uN X) (aB (mK X) (aB (mJ X) (aB (mI X) (aB (mH X) (aB (mG X) (aB (mF X) (sK .next))))))))))
theorem vI(P:dr)(L:dv):SVs C 1 (ij (bB (o188 P)) L 188) (cX (stB 5 5)) (qO X):=dB (X.D0 X.M_set_seq1) rfl ⋯
def fV:CF:=kQ ["self"] [] (qO X)
theorem wE:CV C 2 (.ref 188) (fV X):=CV.def_ X.d_chain_b ⋯ X.b_chain_b (λq q=>.nil) (dL ⋯) (λL=>vI X X.w.params L)
def XX.M_chain_b:ae (Mth C):=me0 "_SequenceMatcher__chain_b" (wE X) rfl::X.M_set_seq1
def sI(X:XX C):SF:=(sK .next)
def sH(X:XX C):SF:=(sIf (tE (aA (oIs id) (eN "b") (eP "b" (eN "self")))) (aB (sK (.ret .none)) (sK .next)) (sK .next))
def sG(X:XX C):SF:=(cE (eN "b") (eU "b" (eN "self")))
def sF(X:XX C):SF:=(cE (eK .none) (iO (eU "matching_blocks" (eN "self")) (eU "opcodes" (eN "self"))))
def sE(X:XX C):SF:=(cE (eK .none) (eU "fullbcount" (eN "self")))
def sD:SF:=(aW (dJ (fV X) (eN "self") esN))
def pD:SF:=(aB (sI X) (aB (sH X) (aB (sG X) (aB (sF X) (aB (sE X) (aB (sD X) (sK .next)))))))
theorem tF(P:dr)(L:dv):SVs C 2 (ij (bB (o181 P)) L 181) (cX (stB 5 4)) (pD X):=dB (X.D0 X.M_chain_b) rfl ⋯
def iM:CF:=kQ ["self","b"] [] (pD X)
theorem uU:CV C 3 (.ref 181) (iM X):=CV.def_ X.d_set_seq2 ⋯ X.b_set_seq2 (λq q=>.nil) (dL ⋯) (λL=>tF X X.w.params L)
def XX.M_set_seq2:ae (Mth C):=me0 "set_seq2" (uU X) rfl::X.M_chain_b
def sC(X:XX C):SF:=(sK .next)
def r9:SF:=(aW (dJ (iN X) (eN "self") (esC (eN "a") esN)))
def r8:SF:=(aW (dJ (iM X) (eN "self") (esC (eN "b") esN)))
def pC:SF:=(aB (sC X) (aB (r9 X) (aB (r8 X) (sK .next))))
theorem tD(P:dr)(L:dv):SVs C 3 (ij (bB (o167 P)) L 167) (cX (stB 5 2)) (pC X):=dB (X.D0 X.M_set_seq2) rfl ⋯
def iK:CF:=kQ ["self","a","b"] [] (pC X)
theorem uT:CV C 4 (.ref 167) (iK X):=CV.def_ X.d_set_seqs ⋯ X.b_set_seqs (λq q=>.nil) (dL ⋯) (λL=>tD X X.w.params L)
def XX.M_set_seqs:ae (Mth C):=me0 "set_seqs" (uT X) rfl::X.M_set_seq2
def iF(X:XX C):SF:=(sK .next)
def cL(X:XX C):SF:=(cE (bE (esC (eP "a" (eN "self")) (esC (eP "b" (eN "self")) (esC (eP "b2j" (eN "self")) (esC (eBd .scon okS (eP "bjunk" (eN "self"))) esN))))) (cZ 4 (asC (aN "a") (asC (aN "b") (asC (aN "b2j") (asC (aN "isbjunk") asN))))))
def eM(X:XX C):SF:=(sIf (tE (aA (oIs id) (eN "ahi") (eK .none))) (aB (aY "ahi" (aL bY (esC (eN "a") esN))) (sK .next)) (sK .next))
def eF(X:XX C):SF:=(sIf (tE (aA (oIs id) (eN "bhi") (eK .none))) (aB (aY "bhi" (aL bY (esC (eN "b") esN))) (sK .next)) (sK .next))
def eE(X:XX C):SF:=(cS ["besti","bestj","bestsize"] (bE (esC (eN "alo") (esC (eN "blo") (esC (eK (.int 0)) esN)))))
def eD(X:XX C):SF:=(aY "j2len" qR)
def d9(X:XX C):SF:=(aY "nothing" (bU esN))
def d8(X:XX C):SF:=(g8 (hF C) (iR (aL cY (esC (eN "alo") (esC (eN "ahi") esN)))) (aN "i") (aB (aY "j2lenget" (eBd .dget okD (eN "j2len"))) (aB (aY "newj2len" qR) (aB (g8 (bZ C) (iL (eGet (eN "b2j") (aA aQ (eN "a") (eN "i")) (eN "nothing"))) (aN "j") (aB (sIf (tE (aA (bA λx y=>decide (x<y)) (eN "j") (eN "blo"))) (aB (sK .cont) (sK .next)) (sK .next)) (aB (sIf (tE (aA (bA λx y=>decide (x>=y)) (eN "j") (eN "bhi"))) (aB (sK .brk) (sK .next)) (sK .next)) (aB (cE (aA aH (eCv (eN "j2lenget") (esC (aA cP (eN "j") (eK (.int 1))) (esC (eK (.int 0)) esN))) (eK (.int 1))) (iO (aN "k") (l8 (eN "newj2len") (eN "j")))) (aB (sIf (tE (aA (bA λx y=>decide (x>y)) (eN "k") (eN "bestsize"))) (aB (cS ["besti","bestj","bestsize"] (bE (esC (aA aH (aA cP (eN "i") (eN "k")) (eK (.int 1))) (esC (aA aH (aA cP (eN "j") (eN "k")) (eK (.int 1))) (esC (eN "k") esN))))) (sK .next)) (sK .next)) (sK .next)))))) (aB (aY "j2len" (eN "newj2len")) (sK .next))))))
def d7(X:XX C):SF:=(j5 (aZ (tE (aA (bA λx y=>decide (x>y)) (eN "besti") (eN "alo"))) (aZ (tE (aA (bA λx y=>decide (x>y)) (eN "bestj") (eN "blo"))) (aZ (y6 (tE (eCv (eN "isbjunk") (esC (aA aQ (eN "b") (aA cP (eN "bestj") (eK (.int 1)))) esN)))) (aZ (tE (aA (bG id) (aA aQ (eN "a") (aA cP (eN "besti") (eK (.int 1)))) (aA aQ (eN "b") (aA cP (eN "bestj") (eK (.int 1)))))) (tK ak))))) (aB (cS ["besti","bestj","bestsize"] (bE (esC (aA cP (eN "besti") (eK (.int 1))) (esC (aA cP (eN "bestj") (eK (.int 1))) (esC (aA aH (eN "bestsize") (eK (.int 1))) esN))))) (sK .next)))
def d6(X:XX C):SF:=(j5 (aZ (tE (aA (bA λx y=>decide (x<y)) (aA aH (eN "besti") (eN "bestsize")) (eN "ahi"))) (aZ (tE (aA (bA λx y=>decide (x<y)) (aA aH (eN "bestj") (eN "bestsize")) (eN "bhi"))) (aZ (y6 (tE (eCv (eN "isbjunk") (esC (aA aQ (eN "b") (aA aH (eN "bestj") (eN "bestsize"))) esN)))) (aZ (tE (aA (bG id) (aA aQ (eN "a") (aA aH (eN "besti") (eN "bestsize"))) (aA aQ (eN "b") (aA aH (eN "bestj") (eN "bestsize"))))) (tK ak))))) (aB (zC "bestsize" zF (eK (.int 1))) (sK .next)))
def dX(X:XX C):SF:=(j5 (aZ (tE (aA (bA λx y=>decide (x>y)) (eN "besti") (eN "alo"))) (aZ (tE (aA (bA λx y=>decide (x>y)) (eN "bestj") (eN "blo"))) (aZ (tE (eCv (eN "isbjunk") (esC (aA aQ (eN "b") (aA cP (eN "bestj") (eK (.int 1)))) esN))) (aZ (tE (aA (bG id) (aA aQ (eN "a") (aA cP (eN "besti") (eK (.int 1)))) (aA aQ (eN "b") (aA cP (eN "bestj") (eK (.int 1)))))) (tK ak))))) (aB (cS ["besti","bestj","bestsize"] (bE (esC (aA cP (eN "besti") (eK (.int 1))) (esC (aA cP (eN "bestj") (eK (.int 1))) (esC (aA aH (eN "bestsize") (eK (.int 1))) esN))))) (sK .next)))
def dW(X:XX C):SF:=(j5 (aZ (tE (aA (bA λx y=>decide (x<y)) (aA aH (eN "besti") (eN "bestsize")) (eN "ahi"))) (aZ (tE (aA (bA λx y=>decide (x<y)) (aA aH (eN "bestj") (eN "bestsize")) (eN "bhi"))) (aZ (tE (eCv (eN "isbjunk") (esC (aA aQ (eN "b") (aA aH (eN "bestj") (eN "bestsize"))) esN))) (aZ (tE (aA (bG id) (aA aQ (eN "a") (aA aH (eN "besti") (eN "bestsize"))) (aA aQ (eN "b") (aA aH (eN "bestj") (eN "bestsize"))))) (tK ak))))) (aB (aY "bestsize" (aA aH (eN "bestsize") (eK (.int 1)))) (sK .next)))
def hR(X:XX C):SF:=(i6 (aL wL (esC (eN "besti") (esC (eN "bestj") (esC (eN "bestsize") esN)))))
def cW:SF:=(aB (iF X) (aB (cL X) (aB (eM X) (aB (eF X) (aB (eE X) (aB (eD X) (aB (d9 X) (aB (d8 X) (aB (d7 X) (aB (d6 X) (aB (dX X) (aB (dW X) (aB (hR X) (sK .next))))))))))))))
theorem iX(P:dr)(L:dv):SVs C 3 (ij (bB (o196 P)) L 196) (cX (stB 5 6)) (cW X):=dB (X.D0 X.M_set_seqs) rfl ⋯
def bM:CF:=kQ ["self","alo","ahi","blo","bhi"] [] (cW X)
theorem iZ:CV C 4 (.ref 196) (bM X):=CV.def_ X.d_find_longest_match ⋯ X.b_find_longest_match (λq q=>.nil) (dL ⋯) (λL=>iX X X.w.params L)
def XX.M_find_longest_match:ae (Mth C):=me0 "find_longest_match" (iZ X) rfl::X.M_set_seqs
def hO(X:XX C):SF:=(sK .next)
def hN(X:XX C):SF:=(sIf (tE (aA (oIs not) (eP "matching_blocks" (eN "self")) (eK .none))) (aB (i6 (eP "matching_blocks" (eN "self"))) (sK .next)) (sK .next))
def dV(X:XX C):SF:=(cS ["la","lb"] (bE (esC (aL bY (esC (eP "a" (eN "self")) esN)) (esC (aL bY (esC (eP "b" (eN "self")) esN)) esN))))
def bR(X:XX C):SF:=(aY "queue" (bU (esC (bE (esC (eK (.int 0)) (esC (eN "la") (esC (eK (.int 0)) (esC (eN "lb") esN))))) esN)))
def bQ(X:XX C):SF:=(aY "matching_blocks" (bU esN))
def bO:SF:=(j5 (tE (eN "queue")) (aB (cE (wA (eN "queue")) (cZ 4 (asC (aN "alo") (asC (aN "ahi") (asC (aN "blo") (asC (aN "bhi") asN)))))) (aB (cE (dJ (bM X) (eN "self") (esC (eN "alo") (esC (eN "ahi") (esC (eN "blo") (esC (eN "bhi") esN))))) (iO (cZ 3 (asC (aN "i") (asC (aN "j") (asC (aN "k") asN)))) (aN "x"))) (aB (sIf (tE (eN "k")) (aB (aW (b9 (eN "matching_blocks") (eN "x"))) (aB (sIf (aZ (tE (aA (bA λx y=>decide (x<y)) (eN "alo") (eN "i"))) (aZ (tE (aA (bA λx y=>decide (x<y)) (eN "blo") (eN "j"))) (tK ak))) (aB (aW (b9 (eN "queue") (bE (esC (eN "alo") (esC (eN "i") (esC (eN "blo") (esC (eN "j") esN))))))) (sK .next)) (sK .next)) (aB (sIf (aZ (tE (aA (bA λx y=>decide (x<y)) (aA aH (eN "i") (eN "k")) (eN "ahi"))) (aZ (tE (aA (bA λx y=>decide (x<y)) (aA aH (eN "j") (eN "k")) (eN "bhi"))) (tK ak))) (aB (aW (b9 (eN "queue") (bE (esC (aA aH (eN "i") (eN "k")) (esC (eN "ahi") (esC (aA aH (eN "j") (eN "k")) (esC (eN "bhi") esN))))))) (sK .next)) (sK .next)) (sK .next)))) (sK .next)) (sK .next)))))
def dU(X:XX C):SF:=(aW (aD2 (eN "matching_blocks")))
def dT(X:XX C):SF:=(cE (eK (.int 0)) (iO (aN "i1") (iO (aN "j1") (aN "k1"))))
def dR(X:XX C):SF:=(aY "non_adjacent" (bU esN))
def cH(X:XX C):SF:=(g8 (bZ C) (iL (eN "matching_blocks")) (cZ 3 (asC (aN "i2") (asC (aN "j2") (asC (aN "k2") asN)))) (aB (sIf (aZ (tE (aA (bG id) (aA aH (eN "i1") (eN "k1")) (eN "i2"))) (aZ (tE (aA (bG id) (aA aH (eN "j1") (eN "k1")) (eN "j2"))) (tK ak))) (aB (zC "k1" zF (eN "k2")) (sK .next)) (aB (sIf (tE (eN "k1")) (aB (aW (b9 (eN "non_adjacent") (bE (esC (eN "i1") (esC (eN "j1") (esC (eN "k1") esN)))))) (sK .next)) (sK .next)) (aB (cS ["i1","j1","k1"] (bE (esC (eN "i2") (esC (eN "j2") (esC (eN "k2") esN))))) (sK .next)))) (sK .next)))
def b8(X:XX C):SF:=(sIf (tE (eN "k1")) (aB (aW (b9 (eN "non_adjacent") (bE (esC (eN "i1") (esC (eN "j1") (esC (eN "k1") esN)))))) (sK .next)) (sK .next))
def bH(X:XX C):SF:=(aW (b9 (eN "non_adjacent") (bE (esC (eN "la") (esC (eN "lb") (esC (eK (.int 0)) esN))))))
def b7:SF:=(cE (eLM (rS C 2 X.makeM) (λi=>(i,0)) (eN "non_adjacent")) (eU "matching_blocks" (eN "self")))
def b6(X:XX C):SF:=(i6 (eP "matching_blocks" (eN "self")))
def eT:SF:=(aB (hO X) (aB (hN X) (aB (dV X) (aB (bR X) (aB (bQ X) (aB (bO X) (aB (dU X) (aB (dT X) (aB (dR X) (aB (cH X) (aB (b8 X) (aB (bH X) (aB (b7 X) (aB (b6 X) (sK .next)))))))))))))))
theorem iA(P:dr)(L:dv):SVs C 4 (ij (bB (o203 P)) L 203) (cX (stB 5 7)) (eT X):=dB (X.D0 X.M_find_longest_match) rfl ⋯
def bF:CF:=kQ ["self"] [] (eT X)
theorem eR:CV C 5 (.ref 203) (bF X):=CV.def_ X.d_get_matching_blocks ⋯ X.b_get_matching_blocks (λq q=>.nil) (dL ⋯) (λL=>iA X X.w.params L)
def XX.M_get_matching_blocks:ae (Mth C):=me0 "get_matching_blocks" (eR X) rfl::X.M_find_longest_match
def m4(X:XX C):SF:=(sK .next)
def mZ(X:XX C):SF:=(sIf (tE (aA (oIs not) (eP "opcodes" (eN "self")) (eK .none))) (aB (i6 (eP "opcodes" (eN "self"))) (sK .next)) (sK .next))
def iV(X:XX C):SF:=(cE (eK (.int 0)) (iO (aN "i") (aN "j")))
def iU(X:XX C):SF:=(cE (bU esN) (iO (eU "opcodes" (eN "self")) (aN "answer")))
def iT:SF:=(g8 (bZ C) (iL (dJ (bF X) (eN "self") esN)) (cZ 3 (asC (aN "ai") (asC (aN "bj") (asC (aN "size") asN)))) (aB (aY "tag" (eK (.str ""))) (aB (sIf (aZ (tE (aA (bA λx y=>decide (x<y)) (eN "i") (eN "ai"))) (aZ (tE (aA (bA λx y=>decide (x<y)) (eN "j") (eN "bj"))) (tK ak))) (aB (aY "tag" (eK (.str "replace"))) (sK .next)) (aB (sIf (tE (aA (bA λx y=>decide (x<y)) (eN "i") (eN "ai"))) (aB (aY "tag" (eK (.str "delete"))) (sK .next)) (aB (sIf (tE (aA (bA λx y=>decide (x<y)) (eN "j") (eN "bj"))) (aB (aY "tag" (eK (.str "insert"))) (sK .next)) (sK .next)) (sK .next))) (sK .next))) (aB (sIf (tE (eN "tag")) (aB (aW (b9 (eN "answer") (bE (esC (eN "tag") (esC (eN "i") (esC (eN "ai") (esC (eN "j") (esC (eN "bj") esN)))))))) (sK .next)) (sK .next)) (aB (cS ["i","j"] (bE (esC (aA aH (eN "ai") (eN "size")) (esC (aA aH (eN "bj") (eN "size")) esN)))) (aB (sIf (tE (eN "size")) (aB (aW (b9 (eN "answer") (bE (esC (eK (.str "equal")) (esC (eN "ai") (esC (eN "i") (esC (eN "bj") (esC (eN "j") esN)))))))) (sK .next)) (sK .next)) (sK .next)))))))
def iS(X:XX C):SF:=(i6 (eN "answer"))
def jZ:SF:=(aB (m4 X) (aB (mZ X) (aB (iV X) (aB (iU X) (aB (iT X) (aB (iS X) (sK .next)))))))
theorem nY(P:dr)(L:dv):SVs C 5 (ij (bB (o210 P)) L 210) (cX (stB 5 8)) (jZ X):=dB (X.D0 X.M_get_matching_blocks) rfl ⋯
def bL:CF:=kQ ["self"] [] (jZ X)
theorem jJ:CV C 6 (.ref 210) (bL X):=CV.def_ X.d_get_opcodes ⋯ X.b_get_opcodes (λq q=>.nil) (dL ⋯) (λL=>nY X X.w.params L)
def XX.M_get_opcodes:ae (Mth C):=me0 "get_opcodes" (jJ X) rfl::X.M_get_matching_blocks
def aDu(X:XX C):SF:=(sK .next)
def aDt(X:XX C):SF:=(cE (eN "isjunk") (eU "isjunk" (eN "self")))
def aDs(X:XX C):SF:=(cE (eK .none) (iO (eU "a" (eN "self")) (eU "b" (eN "self"))))
def aDr(X:XX C):SF:=(cE (eN "autojunk") (eU "autojunk" (eN "self")))
def aDq:SF:=(aW (dJ (iK X) (eN "self") (esC (eN "a") (esC (eN "b") esN))))
def v6:SF:=(aB (aDu X) (aB (aDt X) (aB (aDs X) (aB (aDr X) (aB (aDq X) (sK .next))))))
theorem wY(P:dr)(L:dv):SVs C 4 (ij (bB (zG P)) L 160) (cX (stB 5 1)) (v6 X):=dB (X.D0 X.M_get_opcodes) rfl ⋯
def aEp:CF:=kQ ["self","isjunk","a","b","autojunk"] [.bool ak] (v6 X)
def sW:CF:=kQ ["self","isjunk","a","b","autojunk"] [] (v6 X)
theorem XX.cc_init:CC C 5 (.ref 160) (aEp X):=λhr S hu e=>jI X.d_init ⋯ X.b_init1 (λq q=>.cons (.bool ak) .nil) (dL ⋯) (λL=>wY X X.w.params L) hr S hu e
theorem XX.cc_init4:CC C 5 (.ref 160) (sW X):=λhr S hu e=>jI X.d_init ⋯ X.b_init (λq q=>.nil) (dL ⋯) (λL=>wY X X.w.params L) hr S hu e
def XX.c_SM:CF:=cNew (aEp X)
def XX.c_SM4:CF:=cNew (sW X)
theorem XX.cv_SM:CV C 6 (.ref d3) X.c_SM:=CV.sm X.kc X.cc_init
theorem XX.cv_SM4:CV C 6 (.ref d3) X.c_SM4:=CV.sm X.kc X.cc_init4
def xV(X:XX C):SF:=(sK .next)
def xU:SF:=(aY "codes" (dJ (bL X) (eN "self") esN))
def nM(X:XX C):SF:=(sIf (y6 (tE (eN "codes"))) (aB (aY "codes" (bU (esC (bE (esC (eK (.str "equal")) (esC (eK (.int 0)) (esC (eK (.int 1)) (esC (eK (.int 0)) (esC (eK (.int 1)) esN)))))) esN))) (sK .next)) (sK .next))
def nK(X:XX C):SF:=(sIf (tE (aA (bG id) (aA aQ (aA aQ (eN "codes") (eK (.int 0))) (eK (.int 0))) (eK (.str "equal")))) (aB (cE (aA aQ (eN "codes") (eK (.int 0))) (cZ 5 (asC (aN "tag") (asC (aN "i1") (asC (aN "i2") (asC (aN "j1") (asC (aN "j2") asN))))))) (aB (cE (bE (esC (eN "tag") (esC (aL wK (esC (eN "i1") (esC (aA cP (eN "i2") (eN "n")) esN))) (esC (eN "i2") (esC (aL wK (esC (eN "j1") (esC (aA cP (eN "j2") (eN "n")) esN))) (esC (eN "j2") esN)))))) (l8 (eN "codes") (eK (.int 0)))) (sK .next))) (sK .next))
def nH(X:XX C):SF:=(sIf (tE (aA (bG id) (aA aQ (aA aQ (eN "codes") (dM (eK (.int 1)))) (eK (.int 0))) (eK (.str "equal")))) (aB (cE (aA aQ (eN "codes") (dM (eK (.int 1)))) (cZ 5 (asC (aN "tag") (asC (aN "i1") (asC (aN "i2") (asC (aN "j1") (asC (aN "j2") asN))))))) (aB (cE (bE (esC (eN "tag") (esC (eN "i1") (esC (aL m6 (esC (eN "i2") (esC (aA aH (eN "i1") (eN "n")) esN))) (esC (eN "j1") (esC (aL m6 (esC (eN "j2") (esC (aA aH (eN "j1") (eN "n")) esN))) esN)))))) (l8 (eN "codes") (dM (eK (.int 1))))) (sK .next))) (sK .next))
def rY(X:XX C):SF:=(aY "nn" (aA aH (eN "n") (eN "n")))
def rX(X:XX C):SF:=(aY "group" (bU esN))
def aDd:SF:=(aB (xV X) (aB (xU X) (aB (nM X) (aB (nK X) (aB (nH X) (aB (rY X) (aB (rX X) (sK .next))))))))
theorem gv_pre(P:dr)(L:dv):SVs C 6 ((gsh P).envL L) (gsh P).pre (aDd X):=dB (X.D0 X.M_get_opcodes) rfl ⋯
def g_it(X:XX C):EF:=(eN "codes")
theorem gv_it(P:dr)(L:dv):EV C 6 ((gsh P).envL L) (gsh P).iter (g_it X):=aEc (X.D0 X.M_get_opcodes) rfl ⋯
def aDc(X:XX C):AF:=(cZ 5 (asC (aN "tag") (asC (aN "i1") (asC (aN "i2") (asC (aN "j1") (asC (aN "j2") asN))))))
theorem gv_tgt(P:dr)(L:dv):AV C 6 ((gsh P).envL L) (gsh P).target (aDc X):=dA_ok (X.D0 X.M_get_opcodes) rfl ⋯
def g_fc(X:XX C):TF:=(aZ (tE (aA (bG id) (eN "tag") (eK (.str "equal")))) (aZ (tE (aA (bA λx y=>decide (x>y)) (aA cP (eN "i2") (eN "i1")) (eN "nn"))) (tK ak)))
theorem gv_fc(P:dr)(L:dv):TV C 6 ((gsh P).envL L) (gsh P).cond (g_fc X):=aEa (X.D0 X.M_get_opcodes) rfl ⋯
def g_f1(X:XX C):SF:=(aW (b9 (eN "group") (bE (esC (eN "tag") (esC (eN "i1") (esC (aL m6 (esC (eN "i2") (esC (aA aH (eN "i1") (eN "n")) esN))) (esC (eN "j1") (esC (aL m6 (esC (eN "j2") (esC (aA aH (eN "j1") (eN "n")) esN))) esN))))))))
theorem gv_f1(P:dr)(L:dv):SV C 6 ((gsh P).envL L) (gsh P).s1 (g_f1 X):=dS_ok (X.D0 X.M_get_opcodes) rfl ⋯
def g_fy(X:XX C):EF:=(eN "group")
theorem gv_fy(P:dr)(L:dv):EV C 6 ((gsh P).envL L) (gsh P).ye (g_fy X):=aEc (X.D0 X.M_get_opcodes) rfl ⋯
def g_f2(X:XX C):SF:=(aB (aY "group" (bU esN)) (aB (cS ["i1","j1"] (bE (esC (aL wK (esC (eN "i1") (esC (aA cP (eN "i2") (eN "n")) esN))) (esC (aL wK (esC (eN "j1") (esC (aA cP (eN "j2") (eN "n")) esN))) esN)))) (sK .next)))
theorem gv_f2(P:dr)(L:dv):SVs C 6 ((gsh P).envL L) (gsh P).s2 (g_f2 X):=dB (X.D0 X.M_get_opcodes) rfl ⋯
def g_f3(X:XX C):SF:=(aW (b9 (eN "group") (bE (esC (eN "tag") (esC (eN "i1") (esC (eN "i2") (esC (eN "j1") (esC (eN "j2") esN))))))))
theorem gv_f3(P:dr)(L:dv):SV C 6 ((gsh P).envL L) (gsh P).s3 (g_f3 X):=dS_ok (X.D0 X.M_get_opcodes) rfl ⋯
def xW(X:XX C):TF:=(aZ (tE (eN "group")) (aZ (y6 (aZ (tE (aA (bG id) (aL bY (esC (eN "group") esN)) (eK (.int 1)))) (aZ (tE (aA (bG id) (aA aQ (aA aQ (eN "group") (eK (.int 0))) (eK (.int 0))) (eK (.str "equal")))) (tK ak)))) (tK ak)))
theorem gv_fc2(P:dr)(L:dv):TV C 6 ((gsh P).envL L) (gsh P).cond2 (xW X):=aEa (X.D0 X.M_get_opcodes) rfl ⋯
def g_fy2(X:XX C):EF:=(eN "group")
theorem gv_fy2(P:dr)(L:dv):EV C 6 ((gsh P).envL L) (gsh P).ye2 (g_fy2 X):=aEc (X.D0 X.M_get_opcodes) rfl ⋯
def gfn:GFn:= {pre:=aDd X,it:=g_it X,tgt:=aDc X,fc:=g_fc X,f1:=g_f1 X,fy:=g_fy X,f2:=g_f2 X,f3:=g_f3 X,fc2:=xW X,fy2:=g_fy2 X}
theorem XX.gv(X:XX C)(L:dv):GV C 6 (gsh X.w.params) (gfn X) ((gsh X.w.params).envL L) where
 pre:=gv_pre X X.w.params L
 it:=gv_it X X.w.params L
 tgt:=gv_tgt X X.w.params L
 fc:=gv_fc X X.w.params L
 f1:=gv_f1 X X.w.params L
 fy:=gv_fy X X.w.params L
 f2:=gv_f2 X X.w.params L
 f3:=gv_f3 X X.w.params L
 fc2:=gv_fc2 X X.w.params L
 fy2:=gv_fy2 X X.w.params L
 hs:=λq=>rfl
 co:=rfl
 ia:=rfl
theorem XX.dG:Def C (gsh X.w.params).fa (gsh X.w.params).fd (gsh X.w.params).body:=(aC5 (bB (tV X.w.params))).symm▸X.d_get_grouped_opcodes
def aU(X:XX C):CF:=cGen ["self","n"] []
def bV(X:XX C):CF:=cGen ["self","n"] [.int 3]
theorem iH:CV C 7 (.ref 218) (aU X):=CV.gen X.gc X.dG ⋯ X.b_get_grouped_opcodes (λq q=>.nil) (aBw ⋯)
theorem hU:CV C 7 (.ref 218) (bV X):=CV.gen X.gc X.dG ⋯ X.b_get_grouped_opcodes1 (λq q=>.cons (.int 3 534) .nil) (aBw ⋯)
def XX.ktg:Kti C:=⟨hI X.gc 6 X.gv,iG,IV.gen X.gc X.gv,iP.gen X.gc X.gv,λq=>trivial⟩
def XX.ktl(e:Expr):Kti C:=(onN e.ctorIdx 16 (λq=>Expr.Call.elim e q λfn a a a=>onN fn.ctorIdx 20 (λq=>Expr.Attribute.elim fn q λa x a=>onS x "get_grouped_opcodes" (λa=>aa X.ktg) none) none) none).getD (kt0 e)
def XX.T1:ae (Fn C):=fn0 "list" (CV.listG X.gc X.gv (r:=8) (Nat.le_refl 8)) X.g_list::fn0 "SequenceMatcher" X.cv_SM X.g_SequenceMatcher 3::fn0 "SequenceMatcher" X.cv_SM4 X.g_SequenceMatcher 4::X.Tb
def XX.M1:ae (Mth C):=[me0 "get_grouped_opcodes" (iH X) rfl 1,me0 "get_grouped_opcodes" (hU X) rfl 0,me0 "get_opcodes" (jJ X) rfl,me0 "get_matching_blocks" (eR X) rfl]
def XX.D1(T:ae (Fn C)):DX C:=⟨X.smc,T++fn0 (r0:=0) "sum" CV.sum X.g_sum::X.T1,X.M1,X.ktl,_,X.km,X.g_enumerate,X.sys,λd t κ e=>orE (xIfE d t κ e) (xExt d κ e),λq q q=>none⟩
def lZ(X:XX C):SF:=(cS ["chapters","between"] (bE (esC (bU (esC (bU (esC (bU (esC (eK (.int 8)) esN)) (esC (bU esN) esN))) esN)) (esC (bU esN) esN))))
def hM(X:XX C):SF:=(g8 (bZ C) (iL (eN "numbers")) (aN "x") (aB (aY "k" (aA cP (aL bY (esC (eN "chapters") esN)) (eK (.int 1)))) (aB (aY "item" (aA aH (aA lT (eK (.int 10)) (eN "k")) (aA kV (aA tU (eN "x") (eK (.int 8))) (eK (.int 3))))) (aB (sIf (aZ (tE (aA (bG id) (aA kV (eN "x") (eK (.int 8))) (eK (.int 7)))) (aZ (tE (aA (bA λx y=>decide (x<y)) (eN "k") (eK (.int 4)))) (tK ak))) (aB (aW (b9 (eN "between") (fK (hF C) [".0","t"] (iR (aL cY (esC (aA aH (eK (.int 1)) (aA kV (aA tU (eN "x") (eK (.int 8))) (eK (.int 17)))) esN))) (aN "t") (tK ak) (cD (aA aH (aA aH (eK (.int 1000)) (aA lT (eK (.int 20)) (eN "k"))) (eN "t")))))) (aB (aW (b9 (eN "chapters") (bU (esC (bU (esC (aA aH (aA lT (eK (.int 10)) (eN "k")) (eK (.int 18))) esN)) (esC (bU esN) esN))))) (sK .next))) (aB (sIf (tE (aA (oIn not) (aA kV (eN "x") (eK (.int 8))) (bE (esC (eK (.int 2)) (esC (eK (.int 3)) esN))))) (aB (aW (b9 (aA aQ (aA aQ (eN "chapters") (eN "k")) (eK (.int 0))) (eN "item"))) (sK .next)) (sK .next)) (aB (sIf (tE (aA (oIn not) (aA kV (eN "x") (eK (.int 8))) (bE (esC (eK (.int 0)) (esC (eK (.int 1)) esN))))) (aB (aW (b9 (aA aQ (aA aQ (eN "chapters") (eN "k")) (eK (.int 1))) (eN "item"))) (sK .next)) (sK .next)) (sK .next)))) (sK .next)))))
def lY(X:XX C):SF:=(g8 (hF C) (iR (aL cY (esC (aL bY (esC (eN "chapters") esN)) esN))) (aN "k") (aB (aW (b9 (aA aQ (aA aQ (eN "chapters") (eN "k")) (eK (.int 1))) (aA aH (aA lT (eK (.int 10)) (eN "k")) (eK (.int 9))))) (sK .next)))
def lX(X:XX C):SF:=(i6 (bE (esC (eN "chapters") (esC (eN "between") esN))))
def f6:SF:=(aB (lZ X) (aB (hM X) (aB (lY X) (aB (lX X) (sK .next)))))
theorem mV(P:dr)(L:dv):SVs C 10 (ij (bB (o251 P)) L 251) (cX (stA 7)) (f6 X):=dB (X.D1 []) rfl ⋯
def gC:CF:=kQ ["numbers"] [] (f6 X)
theorem fQ:CV C 11 (.ref 251) (gC X):=CV.def_ X.d__law_chapters ⋯ X.b__law_chapters (λq q=>.nil) (dL ⋯) (λL=>mV X X.w.params L)
def qA(X:XX C):SF:=(i6 (fK (bZ C) [".0","tag","i","iend","j","jend"] (iL (eN "group")) (sX 5 (asC (aN "tag") (asC (aN "i") (asC (aN "iend") (asC (aN "j") (asC (aN "jend") asN)))))) (tK ak) (cD (bE (esC (eN "tag") (esC (aA aH (eN "i") (eN "x")) (esC (aA aH (eN "iend") (eN "x")) (esC (aA aH (eN "j") (eN "y")) (esC (aA aH (eN "jend") (eN "y")) esN)))))))))
def jH:SF:=(aB (qA X) (sK .next))
theorem q6(P:dr)(L:dv):SVs C 10 (ij (bB (o256 P)) L 256) (cX (stA 8)) (jH X):=dB (X.D1 [fn0 "_law_chapters" (fQ X) X.g__law_chapters]) rfl ⋯
def fM:CF:=kQ ["group","x","y"] [] (jH X)
theorem lG:CV C 11 (.ref 256) (fM X):=CV.def_ X.d__law_moved ⋯ X.b__law_moved (λq q=>.nil) (dL ⋯) (λL=>q6 X X.w.params L)
def sP(X:XX C):SF:=(i6 (bE (esC (eK (.str "equal")) (esC (aA aH (eN "x") (eN "begin")) (esC (aA aH (eN "x") (eN "end")) (esC (aA aH (eN "y") (eN "begin")) (esC (aA aH (eN "y") (eN "end")) esN)))))))
def kD:SF:=(aB (sP X) (sK .next))
theorem tH(P:dr)(L:dv):SVs C 10 (ij (bB (o263 P)) L 263) (cX (stA 9)) (kD X):=dB (X.D1 [fn0 "_law_moved" (lG X) X.g__law_moved,fn0 "_law_chapters" (fQ X) X.g__law_chapters]) rfl ⋯
def cA:CF:=kQ ["x","y","begin","end"] [] (kD X)
theorem uW:CV C 11 (.ref 263) (cA X):=CV.def_ X.d__law_kept ⋯ X.b__law_kept (λq q=>.nil) (dL ⋯) (λL=>tH X X.w.params L)
def yE:SF:=(cE (aL (gC X) (esC (aA aH (bU (esC (eK (.int 4)) (esC (eK (.int 31)) (esC (eK (.int 0)) esN)))) (eN "script")) esN)) (cZ 2 (asC (aN "chapters") (asC (aN "between") asN))))
def yD(X:XX C):SF:=(aY "total" (aL cSum (esC (eN "script") esN)))
def yC:SF:=(aY "kept" (aA aH (aA aH (bU (esC (aL (dD (hI X.gc 6 X.gv) (λi=>i)) (esC (aL cY (esC (eK (.int 2000)) (esC (aA aH (eK (.int 2000)) (aA kV (eN "total") (eK (.int 10)))) esN))) esN)) esN)) (eN "between")) (bU (esC (aL (dD (hI X.gc 6 X.gv) (λi=>i)) (esC (aL cY (esC (eK (.int 3000)) (esC (aA aH (eK (.int 3000)) (aA kV (aA tU (eN "total") (eK (.int 10))) (eK (.int 10)))) esN))) esN)) esN))))
def yB(X:XX C):SF:=(cS ["first","second","places"] (bE (esC (bU esN) (esC (bU esN) (esC (bU esN) esN)))))
def yA(X:XX C):SF:=(g8 (hF C) (iR (aL cY (esC (aL bY (esC (eN "chapters") esN)) esN))) (aN "k") (aB (cS ["first","second"] (bE (esC (aA aH (eN "first") (aA aQ (eN "kept") (eN "k"))) (esC (aA aH (eN "second") (aA aQ (eN "kept") (eN "k"))) esN)))) (aB (aW (b9 (eN "places") (bE (esC (aL bY (esC (eN "first") esN)) (esC (aL bY (esC (eN "second") esN)) esN))))) (aB (cS ["first","second"] (bE (esC (aA aH (eN "first") (aA aQ (aA aQ (eN "chapters") (eN "k")) (eK (.int 0)))) (esC (aA aH (eN "second") (aA aQ (aA aQ (eN "chapters") (eN "k")) (eK (.int 1)))) esN)))) (sK .next)))))
def xZ(X:XX C):SF:=(aY "ends" (bE (esC (aL bY (esC (eN "first") esN)) (esC (aL bY (esC (eN "second") esN)) esN))))
def aG6:SF:=(aY "whole" (aL X.c_SM4 (esC (eK .none) (esC (aA aH (eN "first") (aA aQ (eN "kept") (dM (eK (.int 1))))) (esC (aA aH (eN "second") (aA aQ (eN "kept") (dM (eK (.int 1))))) (esC (eK (.bool am)) esN))))))
def aG5:SF:=(aY "other" (aL X.c_SM4 (esC (eK .none) (esC (aA aH (eN "first") (aA aQ (eN "kept") (dM (eK (.int 1))))) (esC (aA aH (eN "second") (aA aQ (eN "kept") (dM (eK (.int 1))))) (esC (eK (.bool am)) esN))))))
def xY:SF:=(aY "changes" (fK (bZ C) [".0","row"] (iL (dJ (bL X) (eN "other") esN)) (aN "row") (aZ (tE (aA (bG not) (aA aQ (eN "row") (eK (.int 0))) (eK (.str "equal")))) (tK ak)) (cD (eN "row"))))
def xX:SF:=(aY "same" (aL X.c_SM4 (esC (eK .none) (esC (aA aQ (eN "kept") (eK (.int 0))) (esC (aL (dD (hI X.gc 6 X.gv) (λi=>i)) (esC (aA aQ (eN "kept") (eK (.int 0))) esN)) (esC (eK (.bool am)) esN))))))
def uM:SF:=(aY "alone" (fK (bZ C) [".0","one","two"] (iL (eN "chapters")) (sX 2 (asC (aN "one") (asC (aN "two") asN))) (tK ak) (cD (aL X.c_SM4 (esC (eK .none) (esC (eN "one") (esC (eN "two") (esC (eK (.bool am)) esN))))))))
def pF:SF:=(g8 (hF C) (iR (aL cY (esC (eK (.int 8)) (esC (dM (eK (.int 1))) (esC (dM (eK (.int 1))) esN))))) (aN "n") (aB (aY "due" (bU esN)) (aB (g8 (hF C) (iR (aL cY (esC (aL bY (esC (eN "chapters") esN)) esN))) (aN "k") (aB (cE (aA aQ (eN "places") (eN "k")) (cZ 2 (asC (aN "x") (asC (aN "y") asN)))) (aB (aY "size" (aL bY (esC (aA aQ (eN "kept") (eN "k")) esN))) (aB (aY "groups" (fK (hI X.gc 6 X.gv) [".0","group"] (iG (dJ (aU X) (aA aQ (eN "alone") (eN "k")) (esC (eN "n") esN))) (aN "group") (tK ak) (cD (aL (fM X) (esC (eN "group") (esC (eN "x") (esC (eN "y") esN))))))) (aB (sIf (aZ (tE (aA (bA λx y=>decide (x>y)) (eN "k") (eK (.int 0)))) (aZ (tE (aA (bA λx y=>decide (x<=y)) (eN "size") (aA lT (eK (.int 2)) (eN "n")))) (tK ak))) (aB (cE (aA aH (aA aH (wA (eN "due")) (bU (esC (aL (cA X) (esC (eN "x") (esC (eN "y") (esC (dM (eN "size")) (esC (eK (.int 0)) esN))))) esN))) (aA aQ (eN "groups") (eK (.int 0)))) (l8 (eN "groups") (eK (.int 0)))) (sK .next)) (aB (sIf (tE (aA (bA λx y=>decide (x>y)) (eN "size") (eK (.int 0)))) (aB (cE (aA aH (bU (esC (aL (cA X) (esC (eN "x") (esC (eN "y") (esC (dM (aL m6 (esC (eN "n") (esC (eN "size") esN)))) (esC (eK (.int 0)) esN))))) esN)) (aA aQ (eN "groups") (eK (.int 0)))) (l8 (eN "groups") (eK (.int 0)))) (aB (sIf (tE (aA (bA λx y=>decide (x>y)) (eN "k") (eK (.int 0)))) (aB (aW (b9 (aA aQ (eN "due") (dM (eK (.int 1)))) (aL (cA X) (esC (eN "x") (esC (eN "y") (esC (dM (eN "size")) (esC (aA cP (eN "n") (eN "size")) esN))))))) (sK .next)) (sK .next)) (sK .next))) (sK .next)) (sK .next))) (aB (aW (eExt (eN "due") (eN "groups"))) (sK .next))))))) (aB (sIf (tE (aA (bG not) (aA aQ (eN "kept") (dM (eK (.int 1)))) (bU esN))) (aB (aW (b9 (aA aQ (eN "due") (dM (eK (.int 1)))) (aL (cA X) (esC (aA aQ (eN "ends") (eK (.int 0))) (esC (aA aQ (eN "ends") (eK (.int 1))) (esC (eK (.int 0)) (esC (aL m6 (esC (eN "n") (esC (aL bY (esC (aA aQ (eN "kept") (dM (eK (.int 1)))) esN)) esN))) esN))))))) (sK .next)) (sK .next)) (aB (aY "told" (aL (dD (hI X.gc 6 X.gv) (λi=>i)) (esC (eIf (tE (aA (bG id) (eN "n") (eK (.int 3)))) (dJ (bV X) (eN "whole") esN) (dJ (aU X) (eN "whole") (esC (eN "n") esN))) esN))) (aB (sIf (tOr (tE (aA (bG not) (eN "told") (eN "due"))) (tOr (tE (aA (bG not) (fK (bZ C) [".0","group","row"] (iL (eN "told")) (aN "group") (tK ak) (qW (bZ C) (iL (eN "group")) (aN "row") (aZ (tE (aA (bG not) (aA aQ (eN "row") (eK (.int 0))) (eK (.str "equal")))) (tK ak)) (cD (eN "row")))) (eN "changes"))) (tK am))) (aB (i6 (eK (.bool am))) (sK .next)) (sK .next)) (aB (sIf (tE (aA (bG not) (aL (dD (hI X.gc 6 X.gv) (λi=>i)) (esC (dJ (aU X) (eN "same") (esC (eN "n") esN)) esN)) (bU esN))) (aB (i6 (eK (.bool am))) (sK .next)) (sK .next)) (sK .next))))))))
def aDp(X:XX C):SF:=(i6 (eK (.bool ak)))
def yF:SF:=(aB (yE X) (aB (yD X) (aB (yC X) (aB (yB X) (aB (yA X) (aB (xZ X) (aB (aG6 X) (aB (aG5 X) (aB (xY X) (aB (xX X) (aB (uM X) (aB (pF X) (aB (aDp X) (sK .next))))))))))))))
theorem sv_law(P:dr)(L:dv):SVs C 11 (ij (bB (o268 P)) L 268) (cX (stA 10)) (yF X):=dB (X.D1 [fn0 "_law_kept" (uW X) X.g__law_kept,fn0 "_law_moved" (lG X) X.g__law_moved,fn0 "_law_chapters" (fQ X) X.g__law_chapters]) rfl ⋯
def c_law:CF:=kQ ["script"] [] (yF X)
theorem cv_law:CV C 12 (.ref 268) (c_law X):=CV.def_ X.d_law ⋯ X.b_law (λq q=>.nil) (dL ⋯) (λL=>sv_law X X.w.params L)
theorem Yj0:m<200->(0:Nat)+((2:Nat)*Int.toNat (((m:Nat):Int)-(0:Int))+(1:Nat)+(0:Nat))<=(1000:Nat):=Z.R 0x400010027e8f40f41f6803da28101102f80000f40006a3d07da00007 [] [m]
theorem Yj1:m<200->(2:Nat)*Int.toNat (((m:Nat):Int)-(0:Int))+(1:Nat)+(0:Nat)<=(1000:Nat):=Z.R 0x100004009fa3d03d07da00f68a040440be000006a3d07da00007 [] [m]
def av(l:ae Int)(i:Int):Int:=l.getD i.toNat 0
def Mt(a b:ae Int)(i j k:Int):Prop:=∀ t,0<=t->t<k->av a (i+t)=av b (j+t)
structure Wd where
 al:Int
 ah:Int
 bl:Int
 bh:Int
structure In(a b:ae Int)(w:Wd)(i j k:Int):Prop where
 i0:w.al<=i
 i1:i+k<=w.ah
 j0:w.bl<=j
 j1:j+k<=w.bh
 k0:0<=k
 m:Mt a b i j k
def Ge(i j k i' j' k':Int):Prop:=k'<k\/(k'=k/\(i<i'\/(i=i'/\j<=j')))
structure Best(a b:ae Int)(w:Wd)(i j k:Int):Prop where
 n:In a b w i j k
 z:k=0->i=w.al/\j=w.bl
 g:∀ i' j' k',In a b w i' j' k'->0<k'->Ge i j k i' j' k'
theorem Ge.anti(h:Ge i j k i' j' k')(h':Ge i' j' k' i j k):i=i'/\j=j'/\k=k':=by
 rcases h with h |⟨e,h⟩
 ·rcases h' with h' |⟨e',_⟩
  ·exact bw h (Int.lt_asymm h')
  ·exact bw h (e'▸ja _)
 ·rcases h' with h' |⟨_,h'⟩
  ·exact bw h' (e▸ja _)
  ·rcases h with h |⟨e1,h⟩
   ·rcases h' with h' |⟨e2,_⟩
    ·exact bw h (Int.lt_asymm h')
    ·exact bw h (e2▸ja _)
   ·rcases h' with h' |⟨_,h'⟩
    ·exact bw h' (e1▸ja _)
    ·exact⟨e1,Int.le_antisymm h h',e.symm⟩
theorem Ge.pos(h:Ge i j k i' j' k')(h':0<k'):0<k:=by
 rcases h with h |⟨e,_⟩
 ·exact Int.lt_trans h' h
 ·exact e▸h'
theorem Best.uniq(h:Best a b w i j k)(h':Best a b w i' j' k'):i=i'/\j=j'/\k=k':=by
 refine Or.elim (pi h.n.k0) (λp=>?_) λp=>?_
 ·have q:=h'.g _ _ _ h.n p
  exact(h.g _ _ _ h'.n (q.pos p)).anti q
 ·refine Or.elim (pi h'.n.k0) (λp'=>(bw ((h.g _ _ _ h'.n p').pos p') (p▸ja _))) λp'=>?_
  ·have z:=h.z p.symm;have z':=h'.z p'.symm
   exact⟨z.1.trans z'.1.symm,z.2.trans z'.2.symm,p.symm.trans p'⟩
structure Suf(a b:ae Int)(w:Wd)(i j k:Int):Prop where
 k0:0<=k
 i0:w.al<=i-k+1
 j0:w.bl<=j-k+1
 m:Mt a b (i-k+1) (j-k+1) k
 x:w.al<=i-k->w.bl<=j-k->av a (i-k)≠av b (j-k)
theorem Suf.zero(hi:w.al<=i+1)(hj:w.bl<=j+1)(x:w.al<=i->w.bl<=j->av a i≠av b j):Suf a b w i j 0:=⟨dj _,A128 hi,A128 hj,λt h1 h2=>bw h2 (oy.mpr h1),by simpa using x⟩
theorem Suf.succ(h:Suf a b w (i-1) (j-1) k)(e:av a i=av b j):Suf a b w i j (k+1):=by
 have e1:i-(k+1)=i-1-k:=A129
 have e2:j-(k+1)=j-1-k:=A129
 refine⟨Int.add_nonneg h.k0 (by decide),rwL e1 h.i0,rwL e2 h.j0,λt h1 h2=>(rwL e1 (rwL e2 ?_)),rwL e1 (rwL e2 h.x)⟩
 by_cases q:t=k
 ·have a1:i-1-k+1+t=i:=A130 q
  have a2:j-1-k+1+t=j:=A131 a1
  exact rwL a1 (rwL a2 e)
 ·exact h.m t h1 (A132 h2 q)
theorem Suf.max(h:Suf a b w i j k)(n:In a b w i' j' k')(e1:i'+k'=i+1)(e2:j'+k'=j+1):k'<=k:=by
 refine oy.mp λq=>?_
 have k0:=h.k0
 have m:=n.m (k'-1-k) (A133 q) (A134 k0)
 have a1:i'+(k'-1-k)=i-k:=A135 e1
 have a2:j'+(k'-1-k)=j-k:=A135 e2
 rw[a1,a2]at m
 exact h.x (by have:=n.i0;exact A136 q a1 this) (by have:=n.j0;exact A136 q a2 this) m
structure BU(a b:ae Int)(w:Wd)(x y i j k:Int):Prop where
 n:In a b w i j k
 z:k=0->i=w.al/\j=w.bl
 e:0<k->i+k<=x\/(i+k=x+1/\j+k<=y)
 g:∀ i' j' k',In a b w i' j' k'->0<k'->(i'+k'<=x\/(i'+k'=x+1/\j'+k'<=y))->Ge i j k i' j' k'
theorem BU.start(h1:w.al<=w.ah)(h2:w.bl<=w.bh):BU a b w w.al w.bl w.al w.bl 0:=by
 refine⟨⟨dj _,A137 h1,dj _,A137 h2,dj _,λt h1 h2=>bw h2 (oy.mpr h1)⟩,λc=>⟨rfl,rfl⟩,λq=>bw q (ja _),λi' j' k' n q r=>?_⟩
 have:=n.i0;have:=n.j0;omega
theorem BU.skip(h:BU a b w x y i j k)(hy:y<=y')(hn:∀ c,y<=c->c<y'->w.bl<=c->c<w.bh->av a x≠av b c):BU a b w x y' i j k:=by
 refine⟨h.n,h.z,λq=>(h.e q).imp_right λr=>⟨r.1,dw r.2 hy⟩,λi' j' k' n q r=>?_⟩
 by_cases p:i'+k'<=x\/(i'+k'=x+1/\j'+k'<=y)
 ·exact h.g i' j' k' n q p
 ·have m:=n.m (k'-1) (A138 q) A139
  have a1:i'+(k'-1)=x:=A140 r p
  rw[a1]at m
  exact bw m (hn _ (A141 p a1) (A142 r a1) (by have:=n.j0;exact A143 q this) (by have:=n.j1;exact A144 this))
theorem BU.row(h:BU a b w x w.bh i j k):BU a b w (x+1) w.bl i j k:=by
 refine⟨h.n,h.z,λq=>.inl ?_,λi' j' k' n q r=>h.g i' j' k' n q ?_⟩
 ·refine Or.elim (h.e q) (λr=>?_) λr=>?_<;>omega
 ·have:=n.j0;have:=n.j1;omega
theorem BU.at(h:BU a b w x y i j k)(n:In a b w i' j' k')(r:0<k')(t:i'+k'<=x\/(i'+k'=x+1/\j'+k'<=y+1))(u: ¬(i'+k'<=x\/(i'+k'=x+1/\j'+k'<=y))):i'+k'=x+1/\j'+k'=y+1:=by
 rcases t with t |⟨t1,t2⟩
 ·exact bw (.inl t) u
 ·exact⟨t1,Int.le_antisymm t2 (oy.mp λq=>u (.inr ⟨t1,Int.le_of_lt_add_one q⟩))⟩
theorem BU.step(h:BU a b w x y i j k)(s:Suf a b w x y k1)(hx:x<w.ah)(hy:y<w.bh)(p:0<k1):BU a b w x (y+1) (if k<k1 then x-k1+1 else i) (if k<k1 then y-k1+1 else j) (if k<k1 then k1 else k):=by
 by_cases q:k<k1
 ·simp only[bo q]
  refine⟨⟨s.i0,A145 hx,s.j0,A145 hy,s.k0,s.m⟩,λz=>(A146 p z).elim,λc=>.inr ⟨A147,A148⟩,λi' j' k' n r t=>?_⟩
  by_cases u:i'+k'<=x\/(i'+k'=x+1/\j'+k'<=y)
  ·rcases h.g i' j' k' n r u with v |⟨v,_⟩
   ·exact .inl (Int.lt_trans v q)
   ·exact .inl (v▸q)
  ·have e:=BU.at h n r t u
   refine Or.elim (pi (s.max n e.1 e.2)) (λv=>(.inl v)) λv=>?_
   ·exact .inr ⟨v,.inr ⟨A149 e v,A150 e v⟩⟩
 ·simp only[bc q]
  refine⟨h.n,h.z,λz=>(h.e z).imp_right λr=>⟨r.1,A151 r⟩,λi' j' k' n r t=>?_⟩
  by_cases u:i'+k'<=x\/(i'+k'=x+1/\j'+k'<=y)
  ·exact h.g i' j' k' n r u
  ·have e:=BU.at h n r t u
   have v:=dw (s.max n e.1 e.2) (oy.mp q)
   refine Or.elim (pi v) (λv=>(.inl v)) λv=>?_
   ·refine .inr ⟨v,Or.elim (h.e (v▸r)) (λz=>(.inl (A152 e v z))) λz=>?_⟩
    ·exact .inr ⟨A153 e v z,A154 e v z⟩
theorem BU.done(h:BU a b w w.ah w.bl i j k):Best a b w i j k:=⟨h.n,h.z,λi' j' k' n q=>h.g i' j' k' n q (.inl n.i1)⟩
def Row(a b:ae Int)(w:Wd)(x y:Int)(g:Int->aj Int):Prop:=∀ c,if w.bl<=c/\c<y/\w.al<=x/\av a x=av b c then ∃ k,g c=aa k/\Suf a b w x c k else g c=none
theorem Row.skip(h:Row a b w x y g)(hy:y<=y')(hn:∀ c,y<=c->c<y'->w.bl<=c->av a x≠av b c):Row a b w x y' g:=λc=>by
 have:=h c
 by_cases q:w.bl<=c/\c<y'/\w.al<=x/\av a x=av b c
 ·rw[bo q]
  by_cases r:c<y
  ·rwa [bo ⟨q.1,r,q.2.2⟩]at this
  ·exact bw q.2.2.2 (hn c (oy.mp r) q.2.1 q.1)
 ·rw[bc q]
  rwa [bc λr=>q ⟨r.1,A155 hy r,r.2.2⟩]at this
theorem Row.step(h:Row a b w x y g)(hy:w.bl<=y)(hx:w.al<=x)(e:av a x=av b y)(s:Suf a b w x y k):Row a b w x (y+1) (λc=>if c=y then aa k else g c):=λc=>by
 have:=h c
 by_cases q:c=y
 ·exact rwL q (rwL (bo ⟨hy,A156,hx,e⟩) ⟨k,bo rfl,s⟩)
 ·dsimp only
  refine rwL (bc q) ?_
  by_cases r:w.bl<=c/\c<y/\w.al<=x/\av a x=av b c
  ·rw[bo r]at this
   exact rwL (bo ⟨r.1,A157 r,r.2.2⟩) this
  ·rw[bc r]at this
   exact rwL (bc λz=>r ⟨z.1,A158 q z,z.2.2⟩) this
theorem Row.next(h:Row a b w (x-1) w.bh g)(hx:w.al<=x)(hy:w.bl<=y)(hy2:y<w.bh)(e:av a x=av b y):Suf a b w x y ((g (y-1)).getD 0+1):=by
 have:=h (y-1)
 refine Suf.succ ?_ e
 by_cases q:w.bl<=y-1/\y-1<w.bh/\w.al<=x-1/\av a (x-1)=av b (y-1)
 ·rw[bo q]at this
  exact xEA this λk h1 h2=>rwL h1 h2
 ·rw[bc q]at this
  exact rwL this (.zero (A159 hx) (A159 hy) λh1 h2 h3=>q ⟨h2,A160 hy2,h1,h3⟩)
theorem Row.zero(h:x<w.al\/y<=w.bl):Row a b w x y (λq=>none):=λc=>by
 exact rwL (bc (A161 h)) rfl
class inductive Idx(b:ae Int)(v:Int):Int->ae Int->Prop
 |nil {lo:Int} (h:∀ c:Int,lo<=c->c<b.length->av b c≠v):Idx b v lo []
 |cons {lo j:Int}{js:ae Int} (h:lo<=j) (hl:j<b.length) (e:av b j=v) (n:∀ c:Int,lo<=c->c<j->av b c≠v) (r:Idx b v (j+1) js):Idx b v lo (j::js)
theorem Idx.no(h:Idx b v y (j::js)):∀ c,y<=c->c<j->av b c≠v:=by
 cases h with
 |cons _ _ _ n _=>exact n
structure WOk(a b:ae Int)(w:Wd):Prop where
 a0:0<=w.al
 a1:w.al<=w.ah
 a2:w.ah<=a.length
 b0:0<=w.bl
 b1:w.bl<=w.bh
 b2:w.bh<=b.length
structure T3 where
 i:Int
 j:Int
 k:Int
def gW(w:Wd)(i j:Int)(q:ae Wd):ae Wd:=if w.al<i/\w.bl<j then⟨w.al,i,w.bl,j⟩::q else q
def iY(w:Wd)(i j k:Int)(q:ae Wd):ae Wd:=if i+k<w.ah/\j+k<w.bh then⟨i+k,w.ah,j+k,w.bh⟩::q else q
class inductive Run(a b:ae Int):ae Wd->ae T3->ae T3->Prop
 |nil {m:ae T3}:Run a b [] m m
 |zero {w:Wd}{q:ae Wd}{m r:ae T3}{i j:Int} (B:Best a b w i j 0) (h:Run a b q m r):Run a b (w::q) m r
 |pos {w:Wd}{q:ae Wd}{m r:ae T3}{i j k:Int} (B:Best a b w i j k) (p:0<k) (h:Run a b (iY w i j k (gW w i j q)) (m++[⟨i,j,k⟩]) r):Run a b (w::q) m r
theorem Run.uniq(h:Run a b q m r)(h':Run a b q m r'):r=r':=by
 induction h with
 |nil=>cases h';rfl
 |zero B h ih=>
  cases h' with
  |zero B' h'=>exact ih h'
  |pos B' p h'=>exact bw ((B.uniq B').2.2▸p) (ja _)
 |pos B p h ih=>
  cases h' with
  |zero B' h'=>exact bw ((B'.uniq B).2.2▸p) (ja _)
  |pos B' p' h'=>
   refine xAA (B.uniq B') λe1 e2 e3=>?_
   subst e1 e2 e3
   exact ih h'
def wsz(w:Wd):Nat:=2*(w.ah-w.al).toNat+1
def mu:ae Wd->Nat
 | []=>0
 |w::q=>wsz w+mu q
theorem mu_c(w:Wd)(q:ae Wd):mu (w::q)=wsz w+mu q:=rfl
theorem rH:∀ q:ae Wd,q.length<=mu q
 | []=>Nat.le_refl _
 |w::q=>by
  rw[mu_c,di,Nat.add_comm]
  exact Nat.add_le_add (ph _ _) (rH q)
theorem q8(h:WOk a b w)(B:Best a b w i j k)(hq:∀ v∈q,WOk a b v):∀ v∈iY w i j k (gW w i j q),WOk a b v:=by
 have i0:=B.n.i0;have i1:=B.n.i1;have j0:=B.n.j0;have j1:=B.n.j1;have k0:=B.n.k0
 have ik:=Int.add_le_add_left k0 i;have jk:=Int.add_le_add_left k0 j
 rw[pb]at ik jk
 have h1:∀ v∈gW w i j q,WOk a b v:=λv hv=>by
  unfold gW at hv
  split at hv
  ·refine Or.elim (cy.mp hv) (λe=>(e▸⟨h.a0,i0,dw ik (dw i1 h.a2),h.b0,j0,dw jk (dw j1 h.b2)⟩)) λe=>?_
   ·exact hq v e
  ·exact hq v hv
 intro v hv
 unfold iY at hv
 split at hv
 ·refine Or.elim (cy.mp hv) (λe=>(e▸⟨dw h.a0 (dw i0 ik),i1,h.a2,dw h.b0 (dw j0 jk),j1,h.b2⟩)) λe=>?_
  ·exact h1 v e
 ·exact h1 v hv
theorem aB0(B:Best a b w i j k)(p:0<k)(q:ae Wd):mu (iY w i j k (gW w i j q))+1<=mu (w::q):=by
 have i0:=B.n.i0;have i1:=B.n.i1
 have e1:mu (gW w i j q)<=2*(i-w.al).toNat+1+mu q:=by
  unfold gW
  split
  ·exact Nat.le_refl _
  ·exact ph _ _
 have e2:mu (iY w i j k (gW w i j q))<=2*(w.ah-(i+k)).toNat+1+mu (gW w i j q):=by
  unfold iY
  split
  ·exact Nat.le_refl _
  ·exact ph _ _
 have e3:mu (w::q)=2*(w.ah-w.al).toNat+1+mu q:=rfl
 exact A183 p i0 i1 e1 e2 e3
def nad(c:T3):ae T3->ae T3
 | []=>if c.k=0 then [] else [c]
 |x::xs=>if c.i+c.k=x.i/\c.j+c.k=x.j then nad ⟨c.i,c.j,c.k+x.k⟩ xs else(if c.k=0 then [] else [c])++nad x xs
theorem tX(c:T3):nad c []=if c.k=0 then [] else [c]:=rfl
theorem qF(c x:T3)(xs:ae T3):nad c (x::xs)=if c.i+c.k=x.i/\c.j+c.k=x.j then nad ⟨c.i,c.j,c.k+x.k⟩ xs else(if c.k=0 then [] else [c])++nad x xs:=rfl
noncomputable abbrev Nv:=ae (Str×aj V)
def look(l:Nv):Lo:=λx=>match l.lookup x with |some o=>o |none=>none
def put(l:Nv)(x:Str)(v:V):Nv:=match l with
 | []=>[(x,aa v)]
 | (y,u)::r=>bif x==y then(y,aa v)::r else(y,u)::put r x v
theorem put_n(x:Str)(v:V):put [] x v= [(x,aa v)]:=rfl
theorem put_c(y:Str)(u:aj V)(r:Nv)(x:Str)(v:V):put ((y,u)::r) x v=bif x==y then(y,aa v)::r else(y,u)::put r x v:=rfl
theorem c8(y z:Str)(u:aj V)(r:Nv):((z,u)::r).lookup y=if y=z then aa u else r.lookup y:=by
 rw[List.lookup]
 by_cases h:y=z
 ·subst h;rw[pt,bo rfl]
 ·exact rwL (bc h) (rwL (show (y==z)=am by simpa using h) rfl)
theorem oA(x:Str)(v:V)(y:Str):∀ l:Nv,(put l x v).lookup y=if y=x then aa (aa v) else l.lookup y
 | []=>by rw[put_n,c8]
 | (z,u)::r=>by
  rw[put_c]
  by_cases h:x=z
  ·subst h
   rw[pt,fz,c8,c8]
   by_cases h2:y=x
   ·exact rwL (bo h2) (rwL (bo h2) rfl)
   ·exact rwL (bc h2) (rwL (bc h2) (rwL (bc h2) rfl))
  ·rw[show (x==z)=am by simpa using h,jq,c8,c8,oA]
   by_cases h2:y=z
   ·exact rwL (bo h2) (rwL (bc (λq=>h (q.symm.trans h2))) (rwL (bo h2) rfl))
   ·rw[bc h2,bc h2]
theorem aD(l:Nv)(x:Str)(v:V):upd (look l) x v=look (put l x v):=by
 funext y
 show(if y=x then aa v else _)=match (put l x v).lookup y with |some o=>o |none=>none
 rw[oA]
 by_cases h:y=x
 ·exact rwL (bo h) (rwL (bo h) rfl)
 ·refine rwL (bc h) (rwL (bc h) ?_);rfl
theorem kch{B:Prop}(h:A=B)(b:B):A:=h.mpr b
structure GoK(I:Lo->MH->Prop)(Q K:SK):Prop where
 nx:∀ {lo H},I lo H->K .next lo H
 ct:∀ {lo H},I lo H->K .cont lo H
 br:∀ {lo H},Q .next lo H->K .brk lo H
 rt:∀ {v lo H},Q (.ret v) lo H->K (.ret v) lo H
theorem GoK.loop{again:Lo->MH->SK->Prop}(h:∀ {lo H},I lo H->again lo H Q):GoK I Q (t7 again Q):=⟨h,h,id,id⟩
theorem jF(Inv:ae V->Lo->MH->Prop)(hl:∀ {rest lo H},Inv rest lo H->lst H (.ref r)=aa vs)(he:∀ {lo H},Inv [] lo H->Q .next lo H)(hs:∀ {v rest lo H K},Inv (v::rest) lo H->GoK (Inv rest) Q K->tgt v lo H λlo1 H1=>body lo1 H1 K):∀ (rest:ae V) (p:Nat){lo:Lo}{H:MH},vs.drop p=rest->Inv rest lo H->cU (bZ C) tgt body (rest.length+1) (r,p) lo H Q
 | [],p,lo,H,hd,h=>by
  refine Lf.mk (p:=none) ?_ (he h)
  show(lst H (.ref r)).map _=_
  rw[hl h,um,ji (List.drop_eq_nil_iff.mp hd)];rfl
 |v::rest,p,lo,H,hd,h=>by
  have hv:vs[p]? =aa v:=by refine rwR yh (rwL hd ?_);rfl
  refine Lf.mk (p:=aa (v,(r,p+1))) ?_ ?_
  ·show(lst H (.ref r)).map _=_
   rw[hl h,um,hv];rfl
  ·exact hs h (.loop λh'=>jF Inv hl he hs rest (p+1) (by refine rwR List.drop_drop (rwL hd ?_);rfl) h')
theorem lE(Inv:Int->Lo->MH->Prop)(he:∀ {lo H},Inv e lo H->Q .next lo H)(hs:∀ {x lo H K},x<e->Inv x lo H->GoK (Inv (x+1)) Q K->tgt (.int x) lo H λlo1 H1=>body lo1 H1 K):∀ (n:Nat) (x:Int){lo:Lo}{H:MH},x+n=e->Inv x lo H->cU (hF C) tgt body (n+1) (x,n,1) lo H Q
 |0,x,lo,H,hd,h=>by
  have:x=e:=A162 hd
  subst this
  exact he h
 |n+1,x,lo,H,hd,h=>hs (A163 hd) h (.loop λh'=>lE Inv he hs n (x+1) (A164 hd) h')
theorem while_{b:SF}(Inv:Nat->Lo->MH->Prop)(hs:∀ {m lo H},Inv m lo H->t lo H λc H1=>bif c then ∀ K,GoK (λlo' H'=>∃ m',m'<m/\Inv m' lo' H') Q K->b lo H1 K else Q .next lo H1)(mono:∀ {lo H}{P P':fq->MH->Prop},t lo H P->(∀ c H',P c H'->P' c H')->t lo H P'):∀ (n m:Nat){lo:Lo}{H:MH},m<n->Inv m lo H->runW t b n lo H Q
 |0,_,_,_,hn,_=>bw hn (Nat.not_lt_zero _)
 |n+1,m,lo,H,hn,h=>mono (hs h) λc H' p=>by
  cases c with
  |true=>exact p _ (.loop fun⟨m',h1,h2⟩=>while_ Inv hs mono n m' (Nat.lt_of_lt_of_le h1 (Nat.le_of_lt_succ hn)) h2)
  |false=>exact p
def LI(H:MH)(r:Nat)(l:ae Int):Prop:=lst H (.ref r)=aa (l.map V.int)
def Hx(H H':MH):Prop:=∀ (i:Nat) (m:MO),H[i]? =aa m->H'[i]? =aa m
theorem Hx.refl(H:MH):Hx H H:=λq q e=>e
theorem Hx.trans{H1:MH}(a:Hx H1 H2)(b:Hx H2 H3):Hx H1 H3:=λi m e=>b i m (a i m e)
theorem Hx.app(H l:MH):Hx H (H++l):=λi m e=>rwL (eo (List.getElem?_eq_some_iff.mp e).1) e
theorem Hx.set{H1:MH}(h:Hx H H1)(hi:H[i]? =none):Hx H (H1.set i m):=λj x e=>by
 have:i≠j:=λq=>by rw[q,e]at hi;exact cyM hi
 exact rwL (jf this) (h j x e)
theorem Hx.lst(h:Hx H H')(e:lst H v=aa vs):lst H' v=aa vs:=xEA (aq.mp e) λi hi e=>xEA (aq.mp e) λm hm e=>aq.mpr ⟨i,hi,aq.mpr ⟨m,h _ _ hm,e⟩⟩
theorem Hx.li(h:Hx H H')(e:LI H r l):LI H' r l:=h.lst e
theorem aV(H:MH)(m:MO):(H++[m])[H.length]? =aa m:=by simp
theorem jC(H:MH)(vs:ae V):lst (H++[.list vs]) (.ref H.length)=aa vs:=by
 show((H++[MO.list vs])[H.length]?).bind _=_
 rw[aV];rfl
theorem aM(H:MH):H[H.length]? =none:=ji (Nat.le_refl _)
def B2J(H:MH)(b:ae Int)(f:Int->aj V):Prop:=∀ v,(f v=none/\Idx b v 0 [])\/∃ r js,f v=aa (.ref r)/\LI H r js/\Idx b v 0 js
theorem B2J.hx(h:B2J H b f)(e:Hx H H'):B2J H' b f:=λv=>(h v).imp_right fun⟨r,js,h1,h2,h3⟩=>⟨r,js,h1,e.li h2,h3⟩
structure SM(H:MH)(s ra rb rd rj n:Nat)(fs:Str->aj V)(f:Int->aj V)(a b:ae Int):Prop where
 o:H[s]? =aa (.inst fs)
 fa:fs "a" =aa (.ref ra)
 fb:fs "b" =aa (.ref rb)
 fd:fs "b2j" =aa (.ref rd)
 fj:fs "bjunk" =aa (.ref rj)
 ia:LI H ra a
 ib:LI H rb b
 d:H[rd]? =aa (.dict n f)
 j:H[rj]? =aa .eset
 bj:B2J H b f
 al:a.length<1000000
 bl:b.length<1000000
theorem SM.hx{rd:Nat}(h:SM H s ra rb rd rj n fs f a b)(e:Hx H H'):SM H' s ra rb rd rj n fs f a b:=⟨e _ _ h.o,h.fa,h.fb,h.fd,h.fj,e.li h.ia,e.li h.ib,e _ _ h.d,e _ _ h.j,h.bj.hx e,h.al,h.bl⟩
theorem nO(h1:lo "self" =aa (.ref s))(h2:H[s]? =aa (.inst fs))(h3:fs x=aa v)(q:Q v H):eP x (eN "self") lo H Q:=Lf.mk h1 (Lf.mk (p:=s) rfl (Lf.mk (p:=fs) (by refine rwL h2 ?_;rfl) (Lf.mk h3 q)))
theorem fU:∀ l:Nv,(l.all λp=>p.2.isNone)=ak->look l=lo0
 | [],_=>rfl
 | (y,u)::r,h=>by
  rw[List.all_cons,Bool.and_eq_true]at h
  have ih:=fU r h.2
  funext x
  show(match ((y,u)::r).lookup x with |some o=>o |none=>none)=none
  rw[c8]
  by_cases q:x=y
  ·exact rwL (bo q) (Option.isNone_iff_eq_none.mp h.1)
  ·exact rwL (bc q) (congrFun ih x)
theorem lP(h:f lo H λv H1=>g v lo H1 λlo' H2=>K .next lo' H2):cE f g lo H K:=h
theorem eV(h:f lo H λv H1=>K .next (upd lo x v) H1):aY x f lo H K:=h
theorem rC(h:f lo H λv H1=>K (.ret v) lo H1):i6 f lo H K:=h
theorem aO(h:f lo H (bN g K)):aB f g lo H K:=h
theorem kT(h:t lo H λb H1=>bif b then f lo H1 K else g lo H1 K):sIf t f g lo H K:=h
theorem fP(h:g lo H λvs H1=>vs.length<100/\Q (.tup vs) H1):bE g lo H Q:=h
theorem eLst_i(h:g lo H λvs H1=>vs.length<1000000/\Q (.ref H1.length) (H1++[.list vs]))(mono:∀ {P P':ae V->MH->Prop},g lo H P->(∀ vs H',P vs H'->P' vs H')->g lo H P'):bU g lo H Q:=mono h λvs H' ⟨h1,h2⟩=>Lf.mk (p:=(.ref H'.length,H'++[.list vs])) (by rw[mkL,bo h1]) h2
theorem jD(h:Q (.ref H.length) (H++[.list []])):bU esN lo H Q:=eLst_i ⟨by decide,h⟩ λp k=>k _ _ p
theorem aJ(h:f lo H λv H1=>g lo H1 λvs H2=>Q (v::vs) H2):esC f g lo H Q:=h
theorem bD(h:Q [] H):esN lo H Q:=h
theorem aI(h:f1 lo H λa H1=>f2 lo H1 λb H2=>Lp (g a b H2) Q):aA g f1 f2 lo H Q:=h
theorem bS(h:fs lo H λvs H1=>g vs H1 Q):aL g fs lo H Q:=h
theorem bK(h:Q v H):eK v lo H Q:=h
theorem aP(e:lo x=aa v)(h:Q v H):eN x lo H Q:=Lf.mk e h
theorem Lp.mk(e:o=aa (v,H))(h:Q v H):Lp o Q:=Lf.mk e h
theorem bd_i(h:f lo H λa H1=>Lf a.rf λi=>Lf H1[i]? λm=>ok m=ak/\Q (mk i) H1):eBd mk ok f lo H Q:=h
theorem n6{K:ItK C}{fi:IF K}(h:fi lo H λit H1=>∃ n,cU K tgt bf n it lo H1 Q):g8 K fi tgt bf lo H Q:=h
def fE(s ra rb rd rj nt g:aj V)(al ah bl bh:Int)(bi bj bs i o2 o3 j k:aj V):Nv:=[("self",s),("alo",aa (.int al)),("ahi",aa (.int ah)),("blo",aa (.int bl)),("bhi",aa (.int bh)),("a",ra),("b",rb),("b2j",rd),("isbjunk",rj),("besti",bi),("bestj",bj),("bestsize",bs),("j2len",g),("nothing",nt),
  ("i",i),("j2lenget",o2),("newj2len",o3),("j",j),("k",k)]
def fN:Nv:=[("self",none),("alo",none),("ahi",none),("blo",none),("bhi",none),("a",none),("b",none),("b2j",none),("isbjunk",none),("besti",none),("bestj",none),("bestsize",none),("j2len",none),("nothing",none),
  ("i",none),("j2lenget",none),("newj2len",none),("j",none),("k",none)]
theorem flm_in(s al ah bl bh):loB ["self","alo","ahi","blo","bhi"] [s,.int al,.int ah,.int bl,.int bh] lo0=look (fE (aa s) none none none none none none al ah bl bh none none none none none none none none):=by
 refine rwR (fU fN ⋯) ?_
 show upd (upd (upd (upd (upd (look fN) "self" s) "alo" (.int al)) "ahi" (.int ah)) "blo" (.int bl)) "bhi" (.int bh)=_
 rw[aD,aD,aD,aD,aD]
 kernel_rfl
theorem flm_1{rd:Nat}(h:SM H s ra rb rd rj n fs f a b)(k:K .next (look (fE (aa (.ref s)) (aa (.ref ra)) (aa (.ref rb)) (aa (.ref rd)) (aa (.scon rj)) none none al ah bl bh none none none none none none none none)) H):cL X (look (fE (aa (.ref s)) none none none none none none al ah bl bh none none none none none none none none)) H K:=by
 unfold cL
 refine lP (fP (aJ (nO ⋯ h.o h.fa (aJ (nO ⋯ h.o h.fb (aJ (nO ⋯ h.o h.fd (aJ (bd_i (nO ⋯ h.o h.fj (Lf.mk (p:=rj) rfl (Lf.mk h.j ⟨rfl,bD ⟨Nat.lt_of_sub_eq_succ rfl,kch (B:=(4=4/\K .next (upd (upd (upd (upd (look (fE (aa (.ref s)) none none none none none none al ah bl bh none none none none none none none none)) "a" (.ref ra)) "b" (.ref rb)) "b2j" (.ref rd)) "isbjunk" (.scon rj)) H)) ⋯ ⟨rfl,?_⟩⟩⟩))))))))))))
 rw[aD,aD,aD,aD]
 exact kch ⋯ k
structure FC where
 s:Nat
 ra:Nat
 rb:Nat
 rd:Nat
 rj:Nat
 nt:Nat
 w:Wd
def fL(c:FC)(g:Nat)(bi bj bs:Int)(i o2 o3 j k:aj V):Lo:=look (fE (aa (.ref c.s)) (aa (.ref c.ra)) (aa (.ref c.rb)) (aa (.ref c.rd)) (aa (.scon c.rj)) (aa (.ref c.nt)) (aa (.ref g)) c.w.al c.w.ah c.w.bl c.w.bh (aa (.int bi)) (aa (.int bj)) (aa (.int bs)) i o2 o3 j k)
def sU:SF:=aB (sIf (tE (aA (bA λx y=>decide (x<y)) (eN "j") (eN "blo"))) (aB (sK .cont) (sK .next)) (sK .next)) (aB (sIf (tE (aA (bA λx y=>decide (x>=y)) (eN "j") (eN "bhi"))) (aB (sK .brk) (sK .next)) (sK .next)) (aB (cE (aA aH (eCv (eN "j2lenget") (esC (aA cP (eN "j") (eK (.int 1))) (esC (eK (.int 0)) esN))) (eK (.int 1))) (iO (aN "k") (l8 (eN "newj2len") (eN "j")))) (aB (sIf (tE (aA (bA λx y=>decide (x>y)) (eN "k") (eN "bestsize"))) (aB (cS ["besti","bestj","bestsize"] (bE (esC (aA aH (aA cP (eN "i") (eN "k")) (eK (.int 1))) (esC (aA aH (aA cP (eN "j") (eN "k")) (eK (.int 1))) (esC (eN "k") esN))))) (sK .next)) (sK .next)) (sK .next))))
def colB3:SF:=aB (cE (aA aH (eCv (eN "j2lenget") (esC (aA cP (eN "j") (eK (.int 1))) (esC (eK (.int 0)) esN))) (eK (.int 1))) (iO (aN "k") (l8 (eN "newj2len") (eN "j")))) (aB (sIf (tE (aA (bA λx y=>decide (x>y)) (eN "k") (eN "bestsize"))) (aB (cS ["besti","bestj","bestsize"] (bE (esC (aA aH (aA cP (eN "i") (eN "k")) (eK (.int 1))) (esC (aA aH (aA cP (eN "j") (eN "k")) (eK (.int 1))) (esC (eN "k") esN))))) (sK .next)) (sK .next)) (sK .next))
def aEh:SF:=aB (sIf (tE (aA (bA λx y=>decide (x>y)) (eN "k") (eN "bestsize"))) (aB (cS ["besti","bestj","bestsize"] (bE (esC (aA aH (aA cP (eN "i") (eN "k")) (eK (.int 1))) (esC (aA aH (aA cP (eN "j") (eN "k")) (eK (.int 1))) (esC (eN "k") esN))))) (sK .next)) (sK .next)) (sK .next)
def zD(C:Cx):SF:=aB (aY "j2lenget" (eBd .dget okD (eN "j2len"))) (aB (aY "newj2len" qR) (aB (g8 (bZ C) (iL (eGet (eN "b2j") (aA aQ (eN "a") (eN "i")) (eN "nothing"))) (aN "j") sU) (aB (aY "j2len" (eN "newj2len")) (sK .next))))
theorem aHd{o2 o3:aj V}:aN "j" (.int j) (fL c g bi bj bs o1 o2 o3 o4 o5) H (λlo1 H1=>sU lo1 H1 K)=sU (fL c g bi bj bs o1 o2 o3 (aa (.int j)) o5) H K:=ei (λlo=>sU lo H K) (aD _ _ _)
theorem col_nf{o2 o3:aj V}:sU (fL c g bi bj bs o1 o2 o3 (aa (.int j)) o5) H K= (bif decide (j<c.w.bl) then K .cont (fL c g bi bj bs o1 o2 o3 (aa (.int j)) o5) H else bif decide (j>=c.w.bh) then K .brk (fL c g bi bj bs o1 o2 o3 (aa (.int j)) o5) H else colB3 (fL c g bi bj bs o1 o2 o3 (aa (.int j)) o5) H K):=by rfl'
theorem wC{i:Nat}(h:H[i]? =aa (.dict n f)):H[i]?.bind MO.dct=aa (n,f):=by refine rwL h ?_;rfl
theorem col3(hg:H[g]? =aa (.dict n f))(hn:H[gn]? =aa (.dict m fn))(hm:m<1000000)(hk:(f (j-1)).getD (.int 0)= .int k)(h:aEh (fL c g bi bj bs (aa (.int x)) (aa (.dget g)) (aa (.ref gn)) (aa (.int j)) (aa (.int (k+1)))) (H.set gn (.dict (m+1) (dput fn j (.int (k+1))))) K):colB3 (fL c g bi bj bs (aa (.int x)) (aa (.dget g)) (aa (.ref gn)) (aa (.int j)) o5) H K:=by
 refine kch (B:=Lf (H[g]?.bind MO.dct) λd=>Lp (aH ((d.2 (j-1)).getD (.int 0)) (.int 1) H) λv H1=>Lf (zE (.ref gn) (.int j) v H1) λH3=>aEh (upd (fL c g bi bj bs (aa (.int x)) (aa (.dget g)) (aa (.ref gn)) (aa (.int j)) o5) "k" v) H3 K) ⋯ (Lf.mk (wC hg) (Lp.mk (v:=.int (k+1)) (H:=H) (by refine rwL hk ?_;rfl) (Lf.mk (p:=H.set gn (.dict (m+1) (dput fn j (.int (k+1))))) (rwL hn (bo hm):H[gn]?.bind (setO H gn j (.int (k+1)))=_) ?_)))
 ·unfold fL
  rw[aD]
  exact h
theorem col4{o2 o3:aj V}(h:K .next (fL c g (if bs<k then x-k+1 else bi) (if bs<k then j-k+1 else bj) (if bs<k then k else bs) (aa (.int x)) o2 o3 (aa (.int j)) (aa (.int k))) H):aEh (fL c g bi bj bs (aa (.int x)) o2 o3 (aa (.int j)) (aa (.int k))) H K:=by
 refine kch (B:=(bif decide (k>bs) then((3<100)/\3=3/\K .next (upd (upd (upd (fL c g bi bj bs (aa (.int x)) o2 o3 (aa (.int j)) (aa (.int k))) "bestsize" (.int k)) "bestj" (.int (j-k+1))) "besti" (.int (x-k+1))) H)
  else K .next (fL c g bi bj bs (aa (.int x)) o2 o3 (aa (.int j)) (aa (.int k))) H)) ⋯ ?_
 by_cases q:bs<k
 ·rw[bo q,bo q,bo q]at h
  refine rwL (show decide (k>bs)=ak from ay q) ⟨by decide,rfl,?_⟩
  unfold fL
  rw[aD,aD,aD]
  exact h
 ·rw[bc q,bc q,bc q]at h
  exact rwL (show decide (k>bs)=am from cc q) h
inductive CI(a b:ae Int)(c:FC)(g gn:Nat)(x v:Int)(Hr:MH)(rest:ae V)(lo:Lo)(H:MH):Prop
 |mk {js:ae Int}{y bi bj bs:Int}{m:Nat}{fn:Int->aj V}{gi:Int->aj Int}{o4 o5:aj V} (er:rest=js.map .int) (el:lo=fL c g bi bj bs (aa (.int x)) (aa (.dget g)) (aa (.ref gn)) o4 o5) (hx:Hx Hr H) (hn:H[gn]? =aa (.dict m fn))
   (hm:m+js.length<1000000) (hf:∀ c,fn c=(gi c).map V.int) (row:Row a b c.w x (max c.w.bl y) gi) (bu:BU a b c.w x (max c.w.bl y) bi bj bs) (ix:Idx b v y js) (yb:y<=c.w.bh):CI a b c g gn x v Hr rest lo H
inductive CE(a b:ae Int)(c:FC)(g gn:Nat)(x:Int)(Hr:MH)(lo:Lo)(H:MH):Prop
 |mk {bi bj bs:Int}{m:Nat}{fn:Int->aj V}{gi:Int->aj Int}{o4 o5:aj V} (el:lo=fL c g bi bj bs (aa (.int x)) (aa (.dget g)) (aa (.ref gn)) o4 o5) (hx:Hx Hr H) (hn:H[gn]? =aa (.dict m fn)) (hf:∀ c,fn c=(gi c).map V.int)
   (row:Row a b c.w x c.w.bh gi) (bu:BU a b c.w x c.w.bh bi bj bs):CE a b c g gn x Hr lo H
theorem CE.of(el:lo=fL c g bi bj bs (aa (.int x)) (aa (.dget g)) (aa (.ref gn)) o4 o5)(hx:Hx Hr H)(hn:H[gn]? =aa (.dict m fn))(hf:∀ c,fn c=(gi c).map V.int)(row:Row a b c.w x (max c.w.bl y) gi)(bu:BU a b c.w x (max c.w.bl y) bi bj bs)(hn2:∀ z,y<=z->z<c.w.bh->av b z≠av a x)(hb:c.w.bl<=c.w.bh)(yb:y<=c.w.bh):CE a b c g gn x Hr lo H:=by
 have mb:max c.w.bl y<=c.w.bh:=Int.max_le.mpr ⟨hb,yb⟩
 exact .mk el hx hn hf (row.skip mb λz h1 h2 h3 h4=>hn2 z (dw (ue _ _) h1) h2 h4.symm) (bu.skip mb λz h1 h2 h3 h4 h5=>hn2 z (dw (ue _ _) h1) h2 h5.symm)
theorem Row.pos(h:Row a b w x y g)(c:Int):0<=(g c).getD 0:=by
 have:=h c
 split at this
 ·exact xEA this λk e s=>rwL e s.k0
 ·exact rwL this (dj _)
theorem aEg{c:FC}(hg:Hr[g]? =aa (.dict n f))(hf0:∀ c,f c=(g0 c).map V.int)(row0:Row a b c.w (x-1) c.w.bh g0)(hgn:Hr[gn]? =none)(hx0:c.w.al<=x)(hx1:x<c.w.ah)(hb:c.w.bl<=c.w.bh)(hbh:c.w.bh<=b.length)(hv:v=av a x)(hr:LI Hr r js)(h:CI a b c g gn x v Hr (js.map .int) lo H)(hQ:∀ {lo H},CE a b c g gn x Hr lo H->Q .next lo H):cU (bZ C) (aN "j") sU ((js.map V.int).length+1) (r,0) lo H Q:=by
 subst hv
 refine jF (CI a b c g gn x (av a x) Hr) (λh=>?_) (λh=>?_) (λh G=>?_) _ 0 rfl h
 ·cases h with |mk _ _ hx=>exact hx.li hr
 ·cases h with
  |mk er el hx hn hm hf row bu ix yb=>
   cases pj.mp er.symm
   cases ix with
   |nil ix=>
   exact hQ (CE.of el hx hn hf row bu (λz h1 h2=>ix z h1 (jr h2 hbh)) hb yb)
 ·cases h with
  | @mk js y bi bj bs m fn gi o4 o5 er el hx hn hm hf row bu ix yb=>
   refine cC (List.map_eq_cons_iff.mp er.symm) λj js' e1 e2 e3=>?_
   subst e1 e2 e3
   refine rwL el (kch aHd (kch col_nf ?_))
   have nn:=ix.no
   cases ix with
   |cons h1 hl e _ ix=>
   by_cases q:j<c.w.bl
   ·refine rwL (ay q) (G.ct (.mk rfl rfl hx hn (Nat.lt_of_succ_lt hm) hf ?_ ?_ ix (dw (Int.add_one_le_of_lt q) hb)))
    ·refine rwL (qh (Int.add_one_le_of_lt q)) ?_
     rwa [qh (oh (Int.lt_of_le_of_lt h1 q))]at row
    ·refine rwL (qh (Int.add_one_le_of_lt q)) ?_
     rwa [qh (oh (Int.lt_of_le_of_lt h1 q))]at bu
   ·refine rwL (cc q) ?_
    by_cases q2:j>=c.w.bh
    ·exact rwL (ay q2) (G.br (hQ (CE.of rfl hx hn hf row bu (λz h1 h2=>nn z h1 (jr h2 q2)) hb yb)))
    ·refine rwL (cc q2) ?_
     have q:=oy.mp q
     have q2:=Int.not_le.mp q2
     have mj:max c.w.bl _<=j:=Int.max_le.mpr ⟨q,h1⟩
     have row2:=row.skip mj λz h1 h2 h3 h4=>nn z (dw (ue _ _) h1) h2 h4.symm
     have bu2:=bu.skip mj λz h1 h2 h3 h4 h5=>nn z (dw (ue _ _) h1) h2 h5.symm
     have sf:=row0.next hx0 q q2 e.symm
     have hk:(f (j-1)).getD (.int 0)= .int ((g0 (j-1)).getD 0):=by rw[hf0];cases g0 (j-1)<;>rfl
     have k0:0<(g0 (j-1)).getD 0+1:=Int.lt_add_one_of_le (Row.pos row0 _)
     refine col3 (hx _ _ hg) hn (nq (pu _ _) hm) hk (col4 (G.nx (.mk rfl rfl (hx.set hgn) (by exact rwL (fe (List.getElem?_eq_some_iff.mp hn).1) rfl) ?_ (gi:=λc=>if c=j then aa ((g0 (j-1)).getD 0+1) else gi c) ?_ ?_ ?_ ix (Int.add_one_le_of_lt q2))))
     ·exact nq (Nat.le_of_eq (Nat.add_right_comm _ _ _)) hm
     ·intro z
      unfold dput
      by_cases qz:z=j
      ·refine rwL (bo qz) (rwL (bo qz) ?_);rfl
      ·exact rwL (bc qz) (rwL (bc qz) (hf z))
     ·exact rwL (Int.max_eq_right (dw q (Int.le_add_one (dj j)))) (row2.step q hx0 e.symm sf)
     ·exact rwL (Int.max_eq_right (dw q (Int.le_add_one (dj j)))) (bu2.step sf hx1 q2 k0)
theorem cI{x:Int}{n:Nat}(h0:0<=x)(h1:x<n):jt x n=aa x.toNat:=by
 unfold jt
 exact rwL (bc (oy.mpr h0)) (bo (by refine rwL (ay h0) (rwL (ay h1) ?_);rfl))
theorem av_get{l:ae Int}{x:Int}(h0:0<=x)(h1:x<l.length):(l.map V.int)[x.toNat]? =aa (.int (av l x)):=by
 have:=(Int.toNat_lt h0).mpr h1
 unfold av
 refine rwL jm (rwL dc (rwL (df this) ?_));rfl
theorem iE{x:Int}(h:LI H r l)(h0:0<=x)(h1:x<l.length)(hl:l.length<1000000):aQ (.ref r) (.int x) H=aa (.int (av l x),H):=by
 show((lst H (.ref r)).bind (at_ x)).map _=_
 refine rwL h ?_
 show(at_ x (l.map V.int)).map _=_
 unfold at_
 rw[bo ⟨A165 h0,A166 h1 hl⟩,ar,cI h0 h1]
 show((l.map V.int)[x.toNat]?).map _=_
 refine rwL (av_get h0 h1) ?_;rfl
theorem Idx.len(h:Idx b v y js)(hy:y<=b.length):y+js.length<=b.length:=by
 induction h with
 |nil _=>simpa using hy
 |cons h1 hl _ _ _ ih=>
  have:=ih (Int.add_one_le_of_lt hl)
  exact rwL di (A167 h1 this)
theorem aF6{o2 o3:aj V}:aN "i" (.int x) (fL c g bi bj bs o1 o2 o3 o4 o5) H (λlo1 H1=>zD C lo1 H1 K)=zD C (fL c g bi bj bs (aa (.int x)) o2 o3 o4 o5) H K:=ei (λlo=>zD C lo H K) (aD _ _ _)
def rowB3(C:Cx):SF:=aB (g8 (bZ C) (iL (eGet (eN "b2j") (aA aQ (eN "a") (eN "i")) (eN "nothing"))) (aN "j") sU) (aB (aY "j2len" (eN "newj2len")) (sK .next))
theorem row12{o2 o3:aj V}(hg:H[g]? =aa (.dict n f))(h:rowB3 C (fL c g bi bj bs (aa (.int x)) (aa (.dget g)) (aa (.ref H.length)) o4 o5) (H++[.dict 0 λq=>Option.none]) K):zD C (fL c g bi bj bs (aa (.int x)) o2 o3 o4 o5) H K:=by
 refine kch (B:=Lf H[g]? λm=>okD m=ak/\rowB3 C (upd (upd (fL c g bi bj bs (aa (.int x)) o2 o3 o4 o5) "j2lenget" (.dget g)) "newj2len" (.ref H.length)) (H++[.dict 0 λq=>Option.none]) K) ⋯ (Lf.mk hg ⟨rfl,?_⟩)
 unfold fL
 rw[aD,aD]
 exact h
inductive RI(a b:ae Int)(c:FC)(H2:MH)(x:Int)(lo:Lo)(H:MH):Prop
 |mk {g n:Nat}{bi bj bs:Int}{f:Int->aj V}{g0:Int->aj Int}{o1 o2 o3 o4 o5:aj V} (el:lo=fL c g bi bj bs o1 o2 o3 o4 o5) (hx:Hx H2 H) (hg:H[g]? =aa (.dict n f)) (hf:∀ c,f c=(g0 c).map V.int)
   (row:Row a b c.w (x-1) c.w.bh g0) (bu:BU a b c.w x c.w.bl bi bj bs) (hx0:c.w.al<=x):RI a b c H2 x lo H
theorem aBe(h:SM H2 c.s c.ra c.rb c.rd c.rj n fs f a b)(ht:LI H2 c.nt [])(w:WOk a b c.w)(hx1:x<c.w.ah)(I:RI a b c H2 x lo H)(G:GoK (RI a b c H2 (x+1)) Q K):aN "i" (.int x) lo H λlo1 H1=>zD C lo1 H1 K:=by
 cases I with
 | @mk g n0 bi bj bs f0 g0 o1 o2 o3 o4 o5 el hx hg hf row bu hx0=>
 refine rwL el (kch aF6 (row12 hg ?_))
 have hx':Hx H (H++[.dict 0 λq=>Option.none]):=.app _ _
 have h':=h.hx (hx.trans hx')
 refine kch (B:=(∃ n g,(H++[MO.dict 0 λq=>Option.none])[c.rd]? =aa (.dict n g))/\Lp (aQ (.ref c.ra) (.int x) (H++[.dict 0 λq=>Option.none])) λu H2=>Lf (Ti u) λv=>Lf (H2[c.rd]?.bind MO.dct) λp=>Lf ((p.2 v).getD (.ref c.nt)).rf λi=>(∃ vs,lst H2 (.ref i)=aa vs)/\
  ∃ n,cU (bZ C) (aN "j") sU n (i,0) (fL c g bi bj bs (aa (.int x)) (aa (.dget g)) (aa (.ref H.length)) o4 o5) H2 (bN (aB (aY "j2len" (eN "newj2len")) (sK .next)) K)) ⋯ ?_
 refine⟨⟨_,_,h'.d⟩,Lp.mk (iE h'.ia (dw w.a0 hx0) (jr hx1 w.a2) h'.al) (Lf.mk (p:=av a x) rfl (Lf.mk (wC h'.d) ?_))⟩
 have fin:∀ {lo H3},CE a b c g H.length x H lo H3->bN (aB (aY "j2len" (eN "newj2len")) (sK .next)) K .next lo H3:=λ{lo H3} e=>by
  cases e with
  | @mk bi bj bs m fn gi o4 o5 el hx3 hn hf3 row3 bu3=>
  refine rwL el (kch (B:=K .next (upd (fL c g bi bj bs (aa (.int x)) (aa (.dget g)) (aa (.ref H.length)) o4 o5) "j2len" (.ref H.length)) H3) ⋯ (G.nx (.mk (g:=H.length) (aD _ _ _) (hx.trans hx3) hn hf3 ?_ bu3.row (dw hx0 (Int.le_add_one (dj _))))))
  rw[Int.add_sub_cancel];exact row3
 have start:∀ {js:ae Int},Idx b (av a x) 0 js->CI a b c g H.length x (av a x) H (js.map .int) (fL c g bi bj bs (aa (.int x)) (aa (.dget g)) (aa (.ref H.length)) o4 o5) (H++[.dict 0 λq=>Option.none]):=λ{js} ix=>
  .mk rfl rfl hx' (aV _ _) (by have:=ix.len (ee _);have:=h.bl;omega) (gi:=λq=>Option.none) (λq=>rfl) (.zero (.inr (Int.max_le.mpr ⟨dj _,w.b0⟩))) (rwL (qh w.b0) bu) ix (dw w.b0 w.b1)
 have go:∀ {r:Nat}{js:ae Int},LI H r js->Idx b (av a x) 0 js->Lf (V.ref r).rf λi=>(∃ vs,lst (H++[MO.dict 0 λq=>Option.none]) (.ref i)=aa vs)/\
   ∃ n,cU (bZ C) (aN "j") sU n (i,0) (fL c g bi bj bs (aa (.int x)) (aa (.dget g)) (aa (.ref H.length)) o4 o5) (H++[.dict 0 λq=>Option.none]) (bN (aB (aY "j2len" (eN "newj2len")) (sK .next)) K):=λhr ix=>
  ⟨⟨_,hx'.li hr⟩,_,aEg hg hf row (aM H) hx0 hx1 w.b1 w.b2 rfl hr (start ix) fin⟩
 rcases h.bj (av a x) with ⟨e,ix⟩ |⟨r,js,e,hr,ix⟩
 ·exact(rwL e (go (hx.li ht) ix):Lf ((f (av a x)).getD (.ref c.nt)).rf _)
 ·exact(rwL e (go (hx.li hr) ix):Lf ((f (av a x)).getD (.ref c.nt)).rf _)
theorem aG8(H:MH)(x y:Int):eqv H (.int x) (.int y)=aa (decide (x=y)):=by rfl'
theorem flm_26(R:SF){rd:Nat}(h:R (fL ⟨s,ra,rb,rd,rj,H.length+1,⟨al,ah,bl,bh⟩⟩ H.length al bl 0 none none none none none) ((H++[.dict 0 λq=>Option.none])++[.list []]) K):aB (eM X) (aB (eF X) (aB (eE X) (aB (eD X) (aB (d9 X) R)))) (look (fE (aa (.ref s)) (aa (.ref ra)) (aa (.ref rb)) (aa (.ref rd)) (aa (.scon rj)) none none al ah bl bh none none none none none none none none)) H K:=by
 refine kch (B:=(3<100/\3=3/\R (upd (upd (upd (upd (upd (look (fE (aa (.ref s)) (aa (.ref ra)) (aa (.ref rb)) (aa (.ref rd)) (aa (.scon rj)) none none al ah bl bh none none none none none none none none)) "bestsize" (.int 0)) "bestj" (.int bl)) "besti" (.int al)) "j2len" (.ref H.length)) "nothing" (.ref (H++[MO.dict 0 λq=>Option.none]).length)) ((H++[.dict 0 λq=>Option.none])++[.list []]) K)) ⋯ ⟨by decide,rfl,?_⟩
 rw[aD,aD,aD,aD,aD,show (H++[MO.dict 0 λq=>Option.none]).length=H.length+1 from by simp]
 exact h
theorem flm_7(h:SM H c.s c.ra c.rb c.rd c.rj n fs f a b)(ht:LI H c.nt [])(hg:H[g]? =aa (.dict 0 λq=>Option.none))(w:WOk a b c.w)(k:∀ {g bi bj bs o1 o2 o3 o4 o5 H'},Hx H H'->Best a b c.w bi bj bs->K .next (fL c g bi bj bs o1 o2 o3 o4 o5) H'):d8 X (fL c g c.w.al c.w.bl 0 none none none none none) H K:=by
 refine kch (B:=(rOk c.w.al c.w.ah 1=ak/\∃ n,cU (hF C) (aN "i") (zD C) n (c.w.al,pV c.w.al c.w.ah 1,1) (fL c g c.w.al c.w.bl 0 none none none none none) H K)) ⋯ ⟨?_,_,lE (e:=c.w.ah) (RI a b c H) (λr=>?_) (λhx r G=>aBe h ht w hx r G) _ _ ?_ (.mk rfl (.refl H) hg (λq=>rfl) (g0:=λq=>Option.none) (.zero (.inl (Int.sub_one_lt_of_le (dj _)))) (.start w.a1 w.b1) (dj _))⟩
 ·have:=w.a0;have:=w.a1;have:=w.a2;have:=h.al
  unfold rOk
  refine rwL (ay (by omega: -1000000<c.w.al)) (rwL (ay (by omega:c.w.al<1000000)) (rwL (ay (by omega: -1000000<c.w.ah)) (rwL (ay (by omega:c.w.ah<1000000)) ?_)))
  rfl
 ·cases r with
  |mk el hx hg hf row bu hx0=>
   exact rwL el (k hx bu.done)
 ·refine(?_:c.w.al+((c.w.ah-c.w.al).toNat:Int)=c.w.ah)
  have:=w.a1;exact A168 this
theorem ab_eq{i j:Int}{Q:fq->MH->Prop}(ha:LI H ra a)(hb:LI H rb b)(al:a.length<1000000)(bl:b.length<1000000)(i0:0<=i)(i1:i<a.length)(j0:0<=j)(j1:j<b.length)(q:Q (decide (av a i=av b j)) H):Lp (aQ (.ref ra) (.int i) H) λa H2=>Lp (aQ (.ref rb) (.int j) H2) λb H3=>Lp (bG id a b H3) λv H4=>Lf (tr v H4) λc=>Q c H4:=Lp.mk (iE ha i0 i1 al) (Lp.mk (iE hb j0 j1 bl) (Lp.mk (v:=.bool (decide (av a i=av b j))) (H:=H) ⋯ (Lf.mk (p:=decide (av a i=av b j)) rfl q)))
theorem Best.left(h:Best a b w i j k)(hi:w.al<i)(hj:w.bl<j):av a (i-1)≠av b (j-1):=λe=>by
 have n:=h.n
 have i0:=n.i0;have i1:=n.i1;have j0:=n.j0;have j1:=n.j1;have k0:=n.k0
 have g:=h.g (i-1) (j-1) (k+1) ⟨A169 hi,A170 i1,A169 hj,A170 j1,A171 k0,λt h1 h2=>?_⟩ (A172 k0)
 ·rcases g with g |⟨g,_⟩<;>omega
 ·by_cases q:t=0
  ·rw[q,pb,pb];exact e
  ·have:=n.m (t-1) (A173 h1 q) (A174 h2)
   exact rwL (show i-1+t=i+(t-1) from A175) (rwL (show j-1+t=j+(t-1) from A175) this)
theorem Best.right(h:Best a b w i j k)(hi:i+k<w.ah)(hj:j+k<w.bh):av a (i+k)≠av b (j+k):=λe=>by
 have n:=h.n
 have i0:=n.i0;have i1:=n.i1;have j0:=n.j0;have j1:=n.j1;have k0:=n.k0
 have g:=h.g i j (k+1) ⟨A176 i0,A177 hi,A176 j0,A177 hj,A171 k0,λt h1 h2=>?_⟩ (A172 k0)
 ·rcases g with g |⟨g,_⟩<;>omega
 ·by_cases q:t=k
  ·exact rwL q e
  ·exact n.m t h1 (A132 h2 q)
theorem flm_8{o2 o3:aj V}(h:SM H c.s c.ra c.rb c.rd c.rj n fs f a b)(w:WOk a b c.w)(B:Best a b c.w bi bj bs)(k:K .next (fL c g bi bj bs o1 o2 o3 o4 o5) H):d7 X (fL c g bi bj bs o1 o2 o3 o4 o5) H K:=by
 refine⟨1,kch (B:=(bif decide (bi>c.w.al) then bif decide (bj>c.w.bl) then Lp (aQ (.ref c.rb) (.int (bj-1)) H) λv H1=>Lf ((one [v]).bind Ti) λk=>H1[c.rj]? =aa .eset/\
  (Lp (aQ (.ref c.ra) (.int (bi-1)) H1) λa H2=>Lp (aQ (.ref c.rb) (.int (bj-1)) H2) λb H3=>Lp (bG id a b H3) λv H4=>Lf (tr v H4) λt=>bif t then
   aB (cS ["besti","bestj","bestsize"] (bE (esC (aA cP (eN "besti") (eK (.int 1))) (esC (aA cP (eN "bestj") (eK (.int 1))) (esC (aA aH (eN "bestsize") (eK (.int 1))) esN))))) (sK .next) (fL c g bi bj bs o1 o2 o3 o4 o5) H4 (t7 (λq q q=>fh) K)
   else K .next (fL c g bi bj bs o1 o2 o3 o4 o5) H4) else K .next (fL c g bi bj bs o1 o2 o3 o4 o5) H else K .next (fL c g bi bj bs o1 o2 o3 o4 o5) H)) ⋯ ?_⟩
 have i1:=B.n.i1;have j1:=B.n.j1;have k0:=B.n.k0;have a0:=w.a0;have a2:=w.a2;have b0:=w.b0;have b2:=w.b2
 by_cases q1:c.w.al<bi
 ·rw[ay q1,fz]
  by_cases q2:c.w.bl<bj
  ·rw[ay q2,fz]
   exact Lp.mk (iE h.ib (A178 b0 q2) (A179 j1 k0 b2) h.bl) (Lf.mk (p:=av b (bj-1)) rfl ⟨h.j,ab_eq (Q:=λt H4=>bif t then _ else _) h.ia h.ib h.al h.bl (A178 a0 q1) (A179 i1 k0 a2) (A178 b0 q2) (A179 j1 k0 b2) (rwL (cc (B.left q1 q2)) k)⟩)
  ·exact rwL (cc q2) k
 ·exact rwL (cc q1) k
theorem flm_9{o2 o3:aj V}(h:SM H c.s c.ra c.rb c.rd c.rj n fs f a b)(w:WOk a b c.w)(B:Best a b c.w bi bj bs)(k:K .next (fL c g bi bj bs o1 o2 o3 o4 o5) H):d6 X (fL c g bi bj bs o1 o2 o3 o4 o5) H K:=by
 refine⟨1,kch (B:=(bif decide (bi+bs<c.w.ah) then bif decide (bj+bs<c.w.bh) then Lp (aQ (.ref c.rb) (.int (bj+bs)) H) λv H1=>Lf ((one [v]).bind Ti) λk=>H1[c.rj]? =aa .eset/\
  (Lp (aQ (.ref c.ra) (.int (bi+bs)) H1) λa H2=>Lp (aQ (.ref c.rb) (.int (bj+bs)) H2) λb H3=>Lp (bG id a b H3) λv H4=>Lf (tr v H4) λt=>bif t then
   aB (zC "bestsize" zF (eK (.int 1))) (sK .next) (fL c g bi bj bs o1 o2 o3 o4 o5) H4 (t7 (λq q q=>fh) K)
   else K .next (fL c g bi bj bs o1 o2 o3 o4 o5) H4) else K .next (fL c g bi bj bs o1 o2 o3 o4 o5) H else K .next (fL c g bi bj bs o1 o2 o3 o4 o5) H)) ⋯ ?_⟩
 have i0:=B.n.i0;have j0:=B.n.j0;have i1:=B.n.i1;have j1:=B.n.j1;have k0:=B.n.k0;have a0:=w.a0;have a2:=w.a2;have b0:=w.b0;have b2:=w.b2
 by_cases q1:bi+bs<c.w.ah
 ·rw[ay q1,fz]
  by_cases q2:bj+bs<c.w.bh
  ·rw[ay q2,fz]
   exact Lp.mk (iE h.ib (A180 j0 k0 b0) (A181 b2 q2) h.bl) (Lf.mk (p:=av b (bj+bs)) rfl ⟨h.j,ab_eq (Q:=λt H4=>bif t then _ else _) h.ia h.ib h.al h.bl (A180 i0 k0 a0) (A181 a2 q1) (A180 j0 k0 b0) (A181 b2 q2) (rwL (cc (B.right q1 q2)) k)⟩)
  ·exact rwL (cc q2) k
 ·exact rwL (cc q1) k
theorem flm_10{o2 o3:aj V}(h:SM H c.s c.ra c.rb c.rd c.rj n fs f a b)(w:WOk a b c.w)(B:Best a b c.w bi bj bs)(k:K .next (fL c g bi bj bs o1 o2 o3 o4 o5) H):dX X (fL c g bi bj bs o1 o2 o3 o4 o5) H K:=by
 refine⟨1,kch (B:=(bif decide (bi>c.w.al) then bif decide (bj>c.w.bl) then Lp (aQ (.ref c.rb) (.int (bj-1)) H) λv H1=>Lf ((one [v]).bind Ti) λk=>H1[c.rj]? =aa .eset/\
  (K .next (fL c g bi bj bs o1 o2 o3 o4 o5) H1) else K .next (fL c g bi bj bs o1 o2 o3 o4 o5) H else K .next (fL c g bi bj bs o1 o2 o3 o4 o5) H)) ⋯ ?_⟩
 have i0:=B.n.i0;have j0:=B.n.j0;have i1:=B.n.i1;have j1:=B.n.j1;have k0:=B.n.k0;have a0:=w.a0;have a2:=w.a2;have b0:=w.b0;have b2:=w.b2
 by_cases q1:bi>c.w.al
 ·rw[ay q1,fz]
  by_cases q2:bj>c.w.bl
  ·rw[ay q2,fz]
   exact Lp.mk (iE h.ib (A178 b0 q2) (A179 j1 k0 b2) h.bl) (Lf.mk (p:=av b (bj-1)) rfl ⟨h.j,k⟩)
  ·exact rwL (cc q2) k
 ·exact rwL (cc q1) k
theorem flm_11{o2 o3:aj V}(h:SM H c.s c.ra c.rb c.rd c.rj n fs f a b)(w:WOk a b c.w)(B:Best a b c.w bi bj bs)(k:K .next (fL c g bi bj bs o1 o2 o3 o4 o5) H):dW X (fL c g bi bj bs o1 o2 o3 o4 o5) H K:=by
 refine⟨1,kch (B:=(bif decide (bi+bs<c.w.ah) then bif decide (bj+bs<c.w.bh) then Lp (aQ (.ref c.rb) (.int (bj+bs)) H) λv H1=>Lf ((one [v]).bind Ti) λk=>H1[c.rj]? =aa .eset/\
  (K .next (fL c g bi bj bs o1 o2 o3 o4 o5) H1) else K .next (fL c g bi bj bs o1 o2 o3 o4 o5) H else K .next (fL c g bi bj bs o1 o2 o3 o4 o5) H)) ⋯ ?_⟩
 have i0:=B.n.i0;have j0:=B.n.j0;have i1:=B.n.i1;have j1:=B.n.j1;have k0:=B.n.k0;have a0:=w.a0;have a2:=w.a2;have b0:=w.b0;have b2:=w.b2
 by_cases q1:bi+bs<c.w.ah
 ·rw[ay q1,fz]
  by_cases q2:bj+bs<c.w.bh
  ·rw[ay q2,fz]
   exact Lp.mk (iE h.ib (A180 j0 k0 b0) (A181 b2 q2) h.bl) (Lf.mk (p:=av b (bj+bs)) rfl ⟨h.j,k⟩)
  ·exact rwL (cc q2) k
 ·exact rwL (cc q1) k
theorem flm_ok{rd:Nat}(h:SM H s ra rb rd rj n fs f a b)(w:WOk a b ⟨al,ah,bl,bh⟩)(k:∀ {i j k H'},Hx H H'->Best a b ⟨al,ah,bl,bh⟩ i j k->Q (.mat i j k) H'):bM X [.ref s,.int al,.int ah,.int bl,.int bh] H Q:=by
 refine⟨rfl,?_⟩
 show cW X (loB ["self","alo","ahi","blo","bhi"] [.ref s,.int al,.int ah,.int bl,.int bh] lo0) H (mW Q)
 rw[flm_in]
 refine flm_1 X h (flm_26 X _ ?_)
 have e:=(Hx.app H [.dict 0 λq=>Option.none]).trans (Hx.app _ [.list []])
 have h1:=h.hx e
 refine flm_7 X (c:=⟨s,ra,rb,rd,rj,H.length+1,⟨al,ah,bl,bh⟩⟩) h1 ?_ ?_ w λ{g bi bj bs o1 o2 o3 o4 o5 H'} e1 B=>?_
 ·have:=jC (H++[.dict 0 λq=>Option.none]) []
  rw[af]at this
  exact this
 ·exact Hx.app _ _ _ _ (aV H _)
 have h2:=h1.hx e1
 exact flm_8 X h2 w B (flm_9 X h2 w B (flm_10 X h2 w B (flm_11 X h2 w B (kch (B:=Q (.mat bi bj bs) H') ⋯ (k (e.trans e1) B)))))
theorem bT{Q:Prop}(h:Q):bif am then P else Q:=h
theorem b3{Q:Prop}(h:P):bif ak then P else Q:=h
theorem aCy{s:Nat}(h:H[s]? =aa (.inst fs)):H[s]?.bind MO.ins=aa fs:=by refine rwL h ?_;rfl
theorem aK(h:H[i]? =aa m)(m':MO):(H.set i m')[i]? =aa m':=by
 exact rwL (fe (List.getElem?_eq_some_iff.mp h).1) rfl
theorem aE(h:H[j]? =aa m)(n:i≠j):(H.set i m')[j]? =aa m:=rwL (jf n) h
def St(s:Nat)(x:Str)(v:V)(H:MH)(k:MH->Prop):Prop:=Lf (H[s]?.bind MO.ins) λfs=>k (H.set s (.inst (fput fs x v)))
def At(s:Nat)(x:Str)(H:MH)(k:V->Prop):Prop:=Lf (H[s]?.bind MO.ins) λfs=>Lf (fs x) k
theorem St.mk(h:H[s]? =aa (.inst fs))(q:k (H.set s (.inst (fput fs x v)))):St s x v H k:=Lf.mk (aCy h) q
theorem At.mk(h:H[s]? =aa (.inst fs))(e:fs x=aa v)(q:k v):At s x H k:=Lf.mk (aCy h) (Lf.mk e q)
def fs1(fs:Str->aj V)(r:Nat):Str->aj V:=fput (fput (fput fs "a" (.ref r)) "matching_blocks" .none) "opcodes" .none
theorem tL(h:H[s]? =aa (.inst fs))(ha:fs "a" =aa .none)(k:Q .none (H.set s (.inst (fs1 fs ra)))):iN X [.ref s,.ref ra] H Q:=by
 refine kch (B:=(2=2/\At s "a" H λv=>Lp (oIs id (.ref ra) v H) λv H1=>Lf (tr v H1) λb=>bif b then Q .none H1 else St s "a" (.ref ra) H1 λH2=>St s "matching_blocks" .none H2 λH3=>St s "opcodes" .none H3 λH4=>Q .none H4)) ⋯
  ⟨rfl,At.mk h ha (Lp.mk (v:=.bool am) (H:=H) rfl (Lf.mk (p:=am) rfl (bT (St.mk h (St.mk (aK h _) (St.mk (aK (aK h _) _) ?_))))))⟩
 rw[vd,vd];exact k
def fs2(fs:Str->aj V)(r:Nat):Str->aj V:=fput (fput (fput (fput fs "b" (.ref r)) "matching_blocks" .none) "opcodes" .none) "fullbcount" .none
theorem tJ(h:H[s]? =aa (.inst fs))(ha:fs "b" =aa .none)(k:fV X [.ref s] (H.set s (.inst (fs2 fs rb))) λq H'=>Q .none H'):iM X [.ref s,.ref rb] H Q:=by
 refine kch (B:=(2=2/\At s "b" H λv=>Lp (oIs id (.ref rb) v H) λv H1=>Lf (tr v H1) λb=>bif b then Q .none H1 else St s "b" (.ref rb) H1 λH2=>St s "matching_blocks" .none H2 λH3=>St s "opcodes" .none H3 λH4=>St s "fullbcount" .none H4 λH5=>(∃ ff,H5[s]? =aa (.inst ff))/\fV X [.ref s] H5 λq H'=>Q .none H')) ⋯
  ⟨rfl,At.mk h ha (Lp.mk (v:=.bool am) (H:=H) rfl (Lf.mk (p:=am) rfl (bT (St.mk h (St.mk (aK h _) (St.mk (aK (aK h _) _) (St.mk (aK (aK (aK h _) _) _) ?_)))))))⟩
 rw[vd,vd,vd];exact⟨⟨_,aK h _⟩,k⟩
def js(b:ae Int)(v:Int):Nat->ae Int
 |0=>[]
 |p+1=>js b v p++if av b p=v then [(p:Int)] else []
theorem js_c(b:ae Int)(v:Int)(p:Nat):js b v (p+1)=js b v p++if av b p=v then [(p:Int)] else []:=rfl
theorem Idx.low{js:ae Int}{lo:Int}(h:Idx b v (lo+1) js)(e:av b lo≠v):Idx b v lo js:=by
 have go:∀ c:Int,lo<=c->(lo+1<=c->av b c≠v)->av b c≠v:=λc h1 h2=>by
  rcases pi h1 with q |q
  ·exact h2 q
  ·exact q▸e
 cases h with
 |nil n=>exact .nil λc h1 h2=>go c h1 λq=>n c q h2
 |cons h1 h2 h3 n r=>exact .cons (dw (Int.le_add_one (dj _)) h1) h2 h3 (λc a b=>go c a λq=>n c q b) r
theorem aCu:∀ {p:Nat}{rest:ae Int},p<=b.length->Idx b v p rest->Idx b v 0 (js b v p++rest)
 |0,_,_,h=>h
 |p+1,rest,hp,h=>by
  rw[js_c,bn]
  refine aCu (Nat.le_of_succ_le hp) ?_
  by_cases q:av b p=v
  ·exact rwL (bo q) (.cons (dj _) (Int.ofNat_lt.mpr hp) q (λc h1 h2=>bw h2 (oy.mpr h1)) h)
  ·exact rwL (bc q) (Idx.low h q)
structure Bk(B:MH)(s rd:Nat)(b:ae Int)(p:Nat)(f:Int->aj V)(H:MH):Prop where
 g:∀ v,(f v=none/\js b v p= [])\/∃ r,f v=aa (.ref r)/\H[r]? =aa (.list ((js b v p).map V.int))/\B[r]? =none/\r≠s/\r≠rd
 i:∀ v v' r,f v=aa (.ref r)->f v'=aa (.ref r)->v=v'
theorem Hx.fresh(h:Hx B H):B[H.length]? =none:=by
 cases e:B[H.length]? with
 |none=>rfl
 |some m=>exact bw (h _ _ e) (by rw[aM];nofun)
theorem cG(h:H[i]? =aa m):H.length≠i:=λq=>by rw[<-q,aM]at h;exact aF h
def fB(s rb rd i elt ind:aj V):Nv:=[("self",s),("b",rb),("b2j",rd),("i",i),("elt",elt),("indices",ind)]
inductive CBI(B:MH)(s rb rd:Nat)(fs:Str->aj V)(b:ae Int)(p:Nat)(lo:Lo)(H:MH):Prop
 |mk {n:Nat}{f:Int->aj V}{o1 o2 o3:aj V} (el:lo=look (fB (aa (.ref s)) (aa (.ref rb)) (aa (.ref rd)) o1 o2 o3)) (hx:Hx B H) (ho:H[s]? =aa (.inst fs)) (hd:H[rd]? =aa (.dict n f)) (hn:n<=p) (bk:Bk B s rd b p f H):CBI B s rb rd fs b p lo H
theorem xD{P:aj (V×(Nat×Nat))->MH->Prop}{p:Nat}(hl:lst H (.ref r)=aa vs)(e:vs[p]? =o)(h:P (o.map λv=>(.tup [.int p,v],(r,p+1))) H):(oQ C).nx (r,p) H P:=Lf.mk hl (rwL e h)
theorem uJ(Inv:Nat->Lo->MH->Prop)(hl:∀ {p lo H},Inv p lo H->lst H (.ref r)=aa vs)(he:∀ {lo H},Inv vs.length lo H->Q .next lo H)(hs:∀ {p v lo H K},vs[p]? =aa v->Inv p lo H->GoK (Inv (p+1)) Q K->tgt (.tup [.int p,v]) lo H λlo1 H1=>body lo1 H1 K):∀ (k p:Nat){lo:Lo}{H:MH},p+k=vs.length->Inv p lo H->cU (oQ C) tgt body (k+1) (r,p) lo H Q
 |0,p,lo,H,hd,h=>by
  refine xD (o:=none) (hl h) (ji (Nat.le_of_eq hd.symm)) ?_
  have e:p=vs.length:=hd
  subst e
  exact he h
 |k+1,p,lo,H,hd,h=>by
  have hp:p<vs.length:=A106 hd
  exact xD (o:=aa vs[p]) (hl h) (df hp) (hs (df hp) h (.loop λh'=>uJ Inv hl he hs k (p+1) (A109 hd) h'))
def chB:SF:=aB (aY "indices" (yH (eN "b2j") (eN "elt") (bU esN))) (aB (aW (b9 (eN "indices") (eN "i"))) (sK .next))
def chT:AF:=cZ 2 (asC (aN "i") (asC (aN "elt") asN))
theorem Bk.old{rd:Nat}(h:Bk B s rd b p f H)(hx:Hx H G)(e:f (av b p)=aa (.ref r))(hs:H[s]? =aa (.inst fs)):Bk B s rd b (p+1) f (G.set r (.list ((js b (av b p) p++[(p:Int)]).map V.int))):=by
 refine⟨λv=>?_,h.i⟩
 rw[js_c]
 by_cases q:av b p=v
 ·refine rwR q (rwL (bo rfl) ?_)
  rcases h.g (av b p) with ⟨e1,_⟩ |⟨r',e1,h1,h2⟩
  ·rw[e]at e1;exact cyM e1
  ·rw[e]at e1;cases e1
   exact .inr ⟨r,e,aK (hx _ _ h1) _,h2⟩
 ·rw[bc q,cw]
  rcases h.g v with h1 |⟨r',e1,h1,h2⟩
  ·exact .inl h1
  ·exact .inr ⟨r',e1,aE (hx _ _ h1) λz=>q (h.i _ _ r (e) (z▸e1)),h2⟩
theorem Bk.new{rd:Nat}(h:Bk B s rd b p f H)(hx:Hx B H)(e:f (av b p)=none)(hs:H[s]? =aa (.inst fs))(hd:H[rd]? =aa (.dict n f))(m:MO):Bk B s rd b (p+1) (dput f (av b p) (.ref H.length)) (((H++[MO.list []]).set rd m).set H.length (.list [.int p])):=by
 have nr:=cG hd
 have ns:=cG hs
 refine⟨λv=>?_,λv v' r h1 h2=>?_⟩
 ·rw[js_c]
  unfold dput
  by_cases q:v=av b p
  ·refine rwL q (rwL (bo rfl) (rwL (bo rfl) (.inr ⟨_,rfl,?_,hx.fresh,ns,nr⟩)))
   rcases h.g (av b p) with ⟨_,e1⟩ |⟨r',e1,_⟩
   ·exact rwL e1 (aK (aE (aV _ _) nr.symm) _)
   ·rw[e]at e1;exact aF e1
  ·rw[bc q,bc (λz=>q z.symm),cw]
   rcases h.g v with h1 |⟨r',e1,h1,h2⟩
   ·exact .inl h1
   ·exact .inr ⟨r',e1,aE (aE (Hx.app _ _ _ _ h1) h2.2.2.symm) (cG h1),h2⟩
 ·unfold dput at h1 h2
  have key:∀ v,f v≠aa (.ref H.length):=λv z=>by
   rcases h.g v with ⟨e1,_⟩ |⟨r',e1,h1,_⟩
   ·rw[z]at e1;exact cyM e1
   ·rw[z]at e1;cases e1;exact cG h1 rfl
  by_cases q:v=av b p
  ·by_cases q':v'=av b p
   ·exact q.trans q'.symm
   ·rw[bo q]at h1;rw[bc q']at h2;cases h1;exact bw h2 (key _)
  ·by_cases q':v'=av b p
   ·rw[bc q]at h1;rw[bo q']at h2;cases h2;exact bw h1 (key _)
   ·rw[bc q]at h1;rw[bc q']at h2;exact h.i _ _ _ h1 h2
theorem eX{r:Nat}(h:H[r]? =aa (.list vs)):H[r]?.bind MO.own=aa vs:=by refine rwL h ?_;rfl
theorem aR(h:H[r]? =aa (.list vs)):lst H (.ref r)=aa vs:=by
 show H[r]?.bind _=_
 refine rwL h ?_;rfl
theorem aBb(hf:lo x=aa (.ref r))(hg:lo y=aa v)(h:H[r]? =aa (.list vs))(hl:vs.length<1000000)(k:K .next lo (H.set r (.list (vs++[v])))):aW (b9 (eN x) (eN y)) lo H K:=Lf.mk hf (Lf.mk (p:=r) rfl ⟨⟨_,h⟩,Lf.mk hg (Lf.mk (eX h) ⟨hl,k⟩)⟩)
theorem aCt(b:ae Int)(v:Int):∀ p,(js b v p).length<=p
 |0=>Nat.le_refl _
 |p+1=>by
  rw[js_c,af]
  refine Nat.add_le_add (aCt b v p) ?_
  split
  ·exact Nat.le_refl 1
  ·exact jo 1
def chR(w:V)(lo:Lo)(K:SK)(H:MH):Prop:=aB (aW (b9 (eN "indices") (eN "i"))) (sK .next) (upd lo "indices" w) H K
theorem chR_i(hi:upd lo "indices" (.ref r) "i" =aa v)(h:H[r]? =aa (.list vs))(hl:vs.length<1000000)(k:K .next (upd lo "indices" (.ref r)) (H.set r (.list (vs++[v])))):chR (.ref r) lo K H:=aBb (x:="indices") (y:="i") (lo:=upd lo "indices" (.ref r)) (K:=bN (sK .next) K) ⋯ hi h hl k
theorem ch_nf{rd p:Nat}{o2 o3:aj V}:(chT (.tup [.int p,.int v]) (look (fB (aa (.ref s)) (aa (.ref rb)) (aa (.ref rd)) o1 o2 o3)) H λlo1 H1=>chB lo1 H1 K)= (2=2/\(∃ n g,H[rd]? =aa (.dict n g))/\Lf ((H++[MO.list []])[rd]?.bind MO.dct) λq=>q.1<1000000/\match q.2 v with
   |some v'=>chR v' (upd (upd (look (fB (aa (.ref s)) (aa (.ref rb)) (aa (.ref rd)) o1 o2 o3)) "i" (.int p)) "elt" (.int v)) K (H++[MO.list []])
   |none=>chR (.ref H.length) (upd (upd (look (fB (aa (.ref s)) (aa (.ref rb)) (aa (.ref rd)) o1 o2 o3)) "i" (.int p)) "elt" (.int v)) K ((H++[MO.list []]).set rd (.dict (q.1+1) (dput q.2 v (.ref H.length))))):=by rfl'
theorem upd3{rd:Nat}{o2 o3:aj V}(u v w:V):upd (upd (upd (look (fB (aa (.ref s)) (aa (.ref rb)) (aa (.ref rd)) o1 o2 o3)) "i" u) "elt" v) "indices" w=look (fB (aa (.ref s)) (aa (.ref rb)) (aa (.ref rd)) (aa u) (aa v) (aa w)):=by
 rw[aD,aD,aD];kernel_rfl
theorem aHe{rd:Nat}(hp:p<1000000)(hs:B[s]? =none)(hr:B[rd]? =none)(sr:s≠rd)(I:CBI B s rb rd fs b p lo H)(G:GoK (CBI B s rb rd fs b (p+1)) Q K):chT (.tup [.int p,.int (av b p)]) lo H λlo1 H1=>chB lo1 H1 K:=by
 cases I with
 | @mk n f o1 o2 o3 el hx ho hd hn bk=>
 refine rwL el ?_
 have hx':Hx H (H++[MO.list []]):=.app _ _
 have hl:=aCt b (av b p) p
 refine kch ch_nf ⟨rfl,⟨_,_,hd⟩,Lf.mk (wC (hx' _ _ hd)) ⟨nq hn hp,?_⟩⟩
 dsimp only
 rcases bk.g (av b p) with ⟨e,e2⟩ |⟨r,e,h1,h2,h3,h4⟩
 ·refine rwL e ?_
  have nr:=cG hd
  have ns:=cG ho
  refine chR_i (vs:=[]) (v:=.int p) ⋯ (aE (aV _ _) nr.symm) (by decide) (G.nx (.mk (n:=n+1) (upd3 _ _ _) (((hx.trans hx').set hr).set hx.fresh) (aE (aE (hx' _ _ ho) sr.symm) ns) ?_ (qu hn) (bk.new hx e ho hd _)))
  ·exact aE (aK (hx' _ _ hd) _) nr
 ·refine rwL e (chR_i (vs:=(js b (av b p) p).map V.int) (v:=.int p) ⋯ (hx' _ _ h1) (by rw[ar];exact nq hl hp) (rwL (show (js b (av b p) p).map V.int++[V.int p]=(js b (av b p) p++[(p:Int)]).map V.int from by refine rwL au ?_;rfl) (G.nx (.mk (n:=n) (upd3 _ _ _) ((hx.trans hx').set h2) (aE (hx' _ _ ho) h3) ?_ (Nat.le_succ_of_le hn) (bk.old hx' e ho)))))
  ·exact aE (hx' _ _ hd) h4
theorem fB_0{rd:Nat}:upd (upd (upd lo0 "self" (.ref s)) "b" (.ref rb)) "b2j" (.ref rd)=look (fB (aa (.ref s)) (aa (.ref rb)) (aa (.ref rd)) none none none):=by
 rw[<-fU (fB none none none none none none) ⋯,aD,aD,aD]
 kernel_rfl
def fs3(fs:Str->aj V)(rd rj rp:Nat):Str->aj V:=fput (fput (fput fs "b2j" (.ref rd)) "bjunk" (.ref rj)) "bpopular" (.ref rp)
theorem Bk.idx{rd:Nat}(h:Bk B s rd b b.length f H)(k:∀ (r:Nat) (m:MO),H[r]? =aa m->r≠s->H'[r]? =aa m):B2J H' b f:=λv=>by
 have e:Idx b v 0 (js b v b.length):=by
  have:=aCu (b:=b) (v:=v) (rest:=[]) (Nat.le_refl b.length) (.nil λc h1 h2=>bw h2 (oy.mpr h1))
  rwa [cw]at this
 rcases h.g v with ⟨h1,h2⟩ |⟨r,h1,h2,h3,h4,h5⟩
 ·exact .inl ⟨h1,h2▸e⟩
 ·exact .inr ⟨r,_,h1,aR (k _ _ h2 h4),e⟩
theorem Bk.nw{rd:Nat}(h:Bk B s rd b p f H)(v:Int)(r:Nat)(e:f v=aa (.ref r)):B[r]? =none:=by
 rcases h.g v with ⟨h1,h2⟩ |⟨r',h1,h2,h3,h4,h5⟩
 ·exact aF (h1.symm.trans e)
 ·cases h1.symm.trans e;exact h3
def yM:SF:=aB (mK X) (aB (mJ X) (aB (mI X) (aB (mH X) (aB (mG X) (aB (mF X) (sK .next))))))
theorem aEi{rd:Nat}{o2 o3:aj V}(hs:B[s]? =none)(hx:Hx B H)(h:H[s]? =aa (.inst fs))(hd:H[rd]? =aa (.dict n f))(sr:s≠rd)(hb:LI B rb b)(bl:b.length<1000000)(bt:t=ak->b.length<200)(ej:fs "isjunk" =aa .none)(ea:fs "autojunk" =aa (.bool t))(bk:Bk B s rd b b.length f H)(k:∀ {H' rj rp},Hx B H'->H'[s]? =aa (MO.inst (fput (fput fs "bjunk" (.ref rj)) "bpopular" (.ref rp)))->H'[rd]? =aa (.dict n f)->H'[rj]? =aa .eset->B2J H' b f->(∀ v r,f v=aa (.ref r)->B[r]? =none)->Q .none H'):yM X (look (fB (aa (.ref s)) (aa (.ref rb)) (aa (.ref rd)) o1 o2 o3)) H (mW Q):=by
 refine kch (B:=(St s "bjunk" (.ref H.length) (H++[MO.eset]) λH3=>At s "isjunk" H3 λv=>Lf (tr v H3) λb=>bif b then fh else St s "bpopular" (.ref H3.length) (H3++[MO.eset]) λH4=>
  Lp ((lst H4 (.ref rb)).bind λxs=>if xs.length<1000000 then aa (.int xs.length,H4) else none) λn H5=>At s "autojunk" H5 λv=>Lf (tr v H5) λb=>bif b then(Lp (bA (λx y=>decide (x>=y)) n (.int 200) H5) λv H6=>Lf (tr v H6) λb=>bif b then fh else Q .none H6) else Q .none H5)) ⋯ ?_
 have h1:=Hx.app H [MO.eset] _ _ h
 have s1:=aK h1 (MO.inst (fput fs "bjunk" (.ref H.length)))
 have x1:=((hx.trans (.app H [MO.eset])).set (m:=.inst (fput fs "bjunk" (.ref H.length))) hs)
 refine St.mk h1 (At.mk s1 (v:=.none) ej (Lf.mk (p:=am) rfl (bT (St.mk (Hx.app _ [MO.eset] _ _ s1) ?_))))
 have s2:=aK (Hx.app _ [MO.eset] _ _ s1) (MO.inst (fput (fput fs "bjunk" (.ref H.length)) "bpopular" (.ref ((H++[MO.eset]).set s (MO.inst (fput fs "bjunk" (.ref H.length)))).length)))
 have x2:=((x1.trans (.app _ [MO.eset])).set (m:=.inst (fput (fput fs "bjunk" (.ref H.length)) "bpopular" (.ref ((H++[MO.eset]).set s (MO.inst (fput fs "bjunk" (.ref H.length)))).length))) hs)
 have lb:=x2.li hb
 have key:∀ (r:Nat) (m:MO),(H++[MO.eset])[r]? =aa m->r≠s->((((H++[MO.eset]).set s (MO.inst (fput fs "bjunk" (.ref H.length))))++[MO.eset]).set s (MO.inst (fput (fput fs "bjunk" (.ref H.length)) "bpopular" (.ref ((H++[MO.eset]).set s (MO.inst (fput fs "bjunk" (.ref H.length)))).length))))[r]? =aa m:=λr m e n=>
  aE (Hx.app _ _ _ _ (aE e n.symm)) n.symm
 have fin:=k x2 s2 (key _ _ (Hx.app _ _ _ _ hd) sr.symm) (key _ _ (aV _ _) (cG h)) (bk.idx λr m e n=>key _ _ (Hx.app _ _ _ _ e) n) bk.nw
 refine Lp.mk (v:=.int b.length) (by refine rwL lb ?_;show(if (b.map V.int).length<1000000 then _ else _)=_;rw[ar,bo bl]) (At.mk s2 (v:=.bool t) ea (Lf.mk (p:=t) rfl ?_))
 cases t with
 |false=>exact fin
 |true=>
  refine b3 (Lp.mk (v:=.bool (decide ((b.length:Int)>=200))) ⋯ (Lf.mk (p:=am) (rwL (cc (A182 (bt rfl))) ?_) (bT fin)));rfl
theorem wI(h:H[s]? =aa (.inst fs))(hx:Hx B H)(hs:B[s]? =none)(hb:LI B rb b)(bl:b.length<1000000)(bt:t=ak->b.length<200)(eb:fs "b" =aa (.ref rb))(ej:fs "isjunk" =aa .none)(ea:fs "autojunk" =aa (.bool t))(k:∀ {H' rd rj rp n f},Hx B H'->H'[s]? =aa (MO.inst (fs3 fs rd rj rp))->H'[rd]? =aa (.dict n f)->H'[rj]? =aa .eset->B2J H' b f->(∀ v r,f v=aa (.ref r)->B[r]? =none)->Q .none H'):fV X [.ref s] H Q:=by
 refine kch (B:=(1=1/\At s "b" H λv=>St s "b2j" (.ref H.length) (H++[.dict 0 λq=>none]) λH2=>Lf v.rf λi=>(∃ vs,lst H2 (.ref i)=aa vs)/\
  ∃ n,cU (oQ C) chT chB n (i,0) (upd (upd (upd lo0 "self" (.ref s)) "b" v) "b2j" (.ref H.length)) H2 (bN (yM X) (mW Q)))) ⋯ ?_
 have e1:=Hx.app H [.dict 0 λq=>none]
 refine⟨rfl,At.mk h eb (St.mk (e1 _ _ h) (Lf.mk (p:=rb) rfl ?_))⟩
 have s1:=aK (e1 _ _ h) (MO.inst (fput fs "b2j" (.ref H.length)))
 have x1:=(hx.trans e1).set (m:=.inst (fput fs "b2j" (.ref H.length))) hs
 have sr:s≠H.length:=(cG h).symm
 refine⟨⟨_,x1.li hb⟩,(b.map V.int).length+1,rwL fB_0 (uJ (CBI B s rb H.length (fput fs "b2j" (.ref H.length)) b) (vs:=b.map V.int) (λI=>?_) (λI=>?_) (λ{p v lo H K} e I G=>?_) _ 0 (Nat.zero_add _) (.mk (n:=0) (f:=λq=>none) rfl x1 s1 (aE (aV _ _) sr) (Nat.le_refl _) ⟨λv=>.inl ⟨rfl,rfl⟩,λv v' r h1 h2=>nomatch h1⟩))⟩
 ·cases I with
  |mk el hx=>exact hx.li hb
 ·cases I with
  |mk el hx ho hd hn bk=>
   refine rwL el ?_
   rw[ar]at bk
   exact aEi X hs hx ho hd sr hb bl bt ej ea bk k
 ·rw[jm]at e
  refine xEA (dy.mp e) λx h1 h2=>rwR h2 ?_
  have:av b p=x:=by
   show b.getD p 0=x
   refine rwL dc (rwL h1 ?_);rfl
  exact rwR this (aHe (tq (List.getElem?_eq_some_iff.mp h1).1 bl) hs hx.fresh sr I G)
structure Bx(a b:ae Int)(t:T3):Prop where
 p:0<t.k
 n:In a b ⟨0,a.length,0,b.length⟩ t.i t.j t.k
def T3.w(t:T3):Wd:=⟨t.i,t.i+t.k,t.j,t.j+t.k⟩
def Sep(x y:Wd):Prop:=(x.ah<=y.al/\x.bh<=y.bl)\/(y.ah<=x.al/\y.bh<=x.bl)
structure Sb(x y:Wd):Prop where
 a0:y.al<=x.al
 a1:x.ah<=y.ah
 b0:y.bl<=x.bl
 b1:x.bh<=y.bh
theorem Sep.symm(h:Sep x y):Sep y x:=Or.symm h
theorem Sep.sub(h:Sep y z)(s:Sb x y):Sep x z:=h.imp (λh=>⟨dw s.a1 h.1,dw s.b1 h.2⟩) λh=>⟨dw h.1 s.a0,dw h.2 s.b0⟩
theorem zN(i:Int)(h:0<=k):i<=i+k:=Int.le_add_of_nonneg_right h
theorem sb1(B:In a b w i j k):Sb ⟨w.al,i,w.bl,j⟩ w:=⟨dj _,dw (zN i B.k0) B.i1,dj _,dw (zN j B.k0) B.j1⟩
theorem sb2(B:In a b w i j k):Sb ⟨i+k,w.ah,j+k,w.bh⟩ w:=⟨dw B.i0 (zN i B.k0),dj _,dw B.j0 (zN j B.k0),dj _⟩
theorem sb3(B:In a b w i j k):Sb (T3.w ⟨i,j,k⟩) w:=⟨B.i0,B.i1,B.j0,B.j1⟩
theorem mem1(h:v∈gW w i j q):v=⟨w.al,i,w.bl,j⟩\/v∈q:=by
 unfold gW at h
 split at h
 ·exact cy.mp h
 ·exact .inr h
theorem mem2(h:v∈iY w i j k q):v=⟨i+k,w.ah,j+k,w.bh⟩\/v∈q:=by
 unfold iY at h
 split at h
 ·exact cy.mp h
 ·exact .inr h
theorem pw1(h:q.Pairwise Sep)(c:∀ v∈q,Sep ⟨w.al,i,w.bl,j⟩ v):(gW w i j q).Pairwise Sep:=by
 unfold gW
 split
 ·exact ip.mpr ⟨c,h⟩
 ·exact h
theorem pw2(h:q.Pairwise Sep)(c:∀ v∈q,Sep ⟨i+k,w.ah,j+k,w.bh⟩ v):(iY w i j k q).Pairwise Sep:=by
 unfold iY
 split
 ·exact ip.mpr ⟨c,h⟩
 ·exact h
def SepT(x y:T3):Prop:=Sep x.w y.w
theorem Run.ok(h:Run a b q m r)(hw:∀ w∈q,WOk a b w)(hm:∀ t∈m,Bx a b t)(pq:q.Pairwise Sep)(pm:m.Pairwise SepT)(cr:∀ w∈q,∀ t∈m,Sep w t.w):(∀ t∈r,Bx a b t)/\r.Pairwise SepT:=by
 induction h with
 |nil=>exact⟨hm,pm⟩
 |zero B h ih=>
  exact ih (λv hv=>hw v (.tail _ hv)) hm (ip.mp pq).2 pm λv hv=>cr v (.tail _ hv)
 | @pos w q m r i j k B p h ih=>
  have W:=hw w (.head _)
  have n:=B.n
  refine xA (ip.mp pq) λpw pq=>?_
  have cl:∀ v∈gW w i j q,v=⟨w.al,i,w.bl,j⟩\/v∈q:=λv hv=>mem1 hv
  have new:∀ v∈iY w i j k (gW w i j q),Sep v (T3.w ⟨i,j,k⟩):=λv hv=>by
   refine Or.elim (mem2 hv) (λe=>(e▸ .inr ⟨dj _,dj _⟩)) λe=>?_
   ·refine Or.elim (cl v e) (λe=>(e▸ .inl ⟨dj _,dj _⟩)) λe=>?_
    ·exact((pw v e).sub (sb3 n)).symm
  refine ih (q8 W B λv hv=>hw v (.tail _ hv)) (λt ht=>?_) (pw2 (pw1 pq λv hv=>(pw v hv).sub (sb1 n)) λv hv=>?_) (List.pairwise_append.mpr ⟨pm,jg _ _,λx hx y hy=>?_⟩) λv hv t ht=>?_
  ·refine Or.elim (cu.mp ht) (λe=>(hm t e)) λe=>?_
   ·cases cq.mp e
    exact⟨p,dw W.a0 n.i0,dw n.i1 W.a2,dw W.b0 n.j0,dw n.j1 W.b2,n.k0,n.m⟩
  ·refine Or.elim (cl v hv) (λe=>(e▸ .inr ⟨zN i n.k0,zN j n.k0⟩)) λe=>?_
   ·exact(pw v e).sub (sb2 n)
  ·cases cq.mp hy
   exact((cr w (.head _) x hx).sub (sb3 n)).symm
  ·refine Or.elim (cu.mp ht) (λe=>?_) λe=>?_
   ·refine Or.elim (mem2 hv) (λz=>(z▸(cr w (.head _) t e).sub (sb2 n))) λz=>?_
    ·refine Or.elim (cl v z) (λz=>(z▸(cr w (.head _) t e).sub (sb1 n))) λz=>?_
     ·exact cr v (.tail _ z) t e
   ·cases cq.mp e
    exact new v hv
theorem Run.ok0(h:Run a b [⟨0,a.length,0,b.length⟩] [] r):(∀ t∈r,Bx a b t)/\r.Pairwise SepT:=h.ok (λw hw=>by
  cases cq.mp hw
  exact⟨dj _,ee _,dj _,dj _,ee _,dj _⟩) (λq h=>bw h dt) (jg _ _) .nil λq q q h=>bw h dt
class inductive CH(a b:ae Int):Int->Int->ae T3->Prop
 |nil {i j:Int}:CH a b i j []
 |cons {i j:Int}{t:T3}{l:ae T3} (hi:i<=t.i) (hj:j<=t.j) (B:Bx a b t) (h:CH a b (t.i+t.k) (t.j+t.k) l):CH a b i j (t::l)
theorem CH.of:∀ {l:ae T3}{i j:Int},(∀ t∈l,Bx a b t)->l.Pairwise SepT->l.Pairwise (λx y=>x.i<y.i)->(∀ t∈l,i<=t.i/\j<=t.j)->CH a b i j l
 | [],_,_,_,_,_,_=>.nil
 |t::l,i,j,hb,hs,hl,h0=>by
  refine xA (ip.mp hs) λs1 s2=>xA (ip.mp hl) λl1 l2=>?_
  have ht:=h0 t (.head _)
  refine .cons ht.1 ht.2 (hb t (.head _)) (CH.of (λx hx=>hb x (.tail _ hx)) s2 l2 λx hx=>(Or.elim (s1 x hx) (λs=>s) λs=>?_))
  ·have p:=(hb x (.tail _ hx)).p
   have e:=jr (l1 x hx) (dw (oh (ju x.i p)) s.1)
   exact bw e (ja _)
theorem CH.len(h:CH a b i j l)(hi:i<=a.length):i+l.length<=a.length:=by
 induction h with
 |nil=>simpa using hi
 | @cons i j t l h1 h2 B h ih=>
  have:=ih B.n.i1
  have p:=B.p
  exact rwL di (A201 h1 this p)
theorem nC:∀ (l:ae T3) (c:T3),(nad c l).length<=l.length+1
 | [],c=>by
  rw[tX];split
  ·exact jo 1
  ·exact Nat.le_refl 1
 |x::l,c=>by
  rw[qF];split
  ·exact Nat.le_succ_of_le (nC l _)
  ·rw[af,di,Nat.add_comm]
   refine Nat.add_le_add (nC l x) ?_
   split
   ·exact jo 1
   ·exact Nat.le_refl 1
theorem Run.sorted(h:Run a b [⟨0,a.length,0,b.length⟩] [] r):r.Pairwise (λx y=>x.i≠y.i)/\CH a b 0 0 (isort T3.i r):=by
 refine xA h.ok0 λh1 h2=>?_
 have ne:r.Pairwise (λx y=>x.i≠y.i):=h2.imp_of_mem λ{x y} hx hy s e=>by
  have px:=(h1 x hx).p;have py:=(h1 y hy).p
  refine Or.elim s (λs=>(bw (jr (ju x.i px) s.1) (e▸ja _))) λs=>?_
  ·exact bw (jr (ju y.i py) s.1) (e▸ja _)
 have pm:=bW T3.i r
 have h3:∀ t∈isort T3.i r,Bx a b t:=λt ht=>h1 t (pm.mem_iff.mp ht)
 exact⟨ne,.of h3 ((pm.pairwise_iff λ{x y} (s:SepT x y)=>s.symm).mpr h2) (lA ne) λt ht=>⟨(h3 t ht).n.i0,(h3 t ht).n.j0⟩⟩
theorem Run.len(h:Run a b [⟨0,a.length,0,b.length⟩] [] r):r.length<=a.length:=by
 have:=h.sorted.2.len (ee _)
 rw[(bW T3.i r).length_eq]at this
 exact A202 this
set_option genCtorIdx true in
inductive Tg where |rep |del |ins |eq
structure Op where
 tag:Tg
 i1:Int
 i2:Int
 j1:Int
 j2:Int
def gap(i j i' j':Int):ae Op:=if i<i' then if j<j' then [⟨.rep,i,i',j,j'⟩] else [⟨.del,i,i',j,j'⟩] else if j<j' then [⟨.ins,i,i',j,j'⟩] else []
def ops(i j:Int):ae T3->ae Op
 | []=>[]
 |t::l=>gap i j t.i t.j++((if t.k=0 then [] else [Op.mk .eq t.i (t.i+t.k) t.j (t.j+t.k)])++ops (t.i+t.k) (t.j+t.k) l)
theorem qE(i j:Int):ops i j []= []:=rfl
theorem fY(i j:Int)(t:T3)(l:ae T3):ops i j (t::l)=gap i j t.i t.j++((if t.k=0 then [] else [Op.mk .eq t.i (t.i+t.k) t.j (t.j+t.k)])++ops (t.i+t.k) (t.j+t.k) l):=rfl
class inductive NA(a b:ae Int):fq->Int->Int->ae T3->Prop
 |nil {f:fq}{i j:Int}:NA a b f i j []
 |cons {f:fq}{i j:Int}{t:T3}{l:ae T3} (hi:i<=t.i) (hj:j<=t.j) (st:f=ak->i<t.i\/j<t.j) (B:Bx a b t) (h:NA a b ak (t.i+t.k) (t.j+t.k) l):NA a b f i j (t::l)
theorem Bx.nz(B:Bx a b c):c.k≠0:=λz=>bw B.p (z▸ja _)
theorem Bx.join(B:Bx a b c)(X:Bx a b x)(e1:c.i+c.k=x.i)(e2:c.j+c.k=x.j):Bx a b ⟨c.i,c.j,c.k+x.k⟩:=by
 have n:=X.n
 have c0:=B.n.k0
 refine⟨Int.add_pos_of_pos_of_nonneg B.p n.k0,B.n.i0,?_,B.n.j0,?_,Int.add_nonneg c0 n.k0,λt h1 h2=>?_⟩
 ·refine(?_:c.i+(c.k+x.k)<=_)
  rw[<-sv,e1];exact n.i1
 ·refine(?_:c.j+(c.k+x.k)<=_)
  rw[<-sv,e2];exact n.j1
 ·by_cases q:t<c.k
  ·exact B.n.m t h1 q
  ·have:=n.m (t-c.k) (ku (oy.mp q)) (Int.sub_left_lt_of_lt_add h2)
   rw[<-e1,<-e2,sv,sv,show c.k+(t-c.k)=t from A203]at this
   exact this
theorem kY:∀ {l:ae T3}{c:T3}{f:fq}{i j:Int},CH a b (c.i+c.k) (c.j+c.k) l->Bx a b c->i<=c.i->j<=c.j->(f=ak->i<c.i\/j<c.j)->NA a b f i j (nad c l)
 | [],c,f,i,j,_,B,hi,hj,st=>by
  rw[tX,bc B.nz]
  exact .cons hi hj st B .nil
 |x::l,c,f,i,j,h,B,hi,hj,st=>by
  cases h with
  |cons h1 h2 X h=>
  rw[qF]
  by_cases q:c.i+c.k=x.i/\c.j+c.k=x.j
  ·refine rwL (bo q) (kY (c:=⟨c.i,c.j,c.k+x.k⟩) (?_:CH a b (c.i+(c.k+x.k)) (c.j+(c.k+x.k)) l) (B.join X q.1 q.2) hi hj st)
   rw[<-sv,<-sv,q.1,q.2];exact h
  ·refine rwL (bc q) (rwL (bc B.nz) (.cons hi hj st B (kY h X h1 h2 λd=>?_)))
   by_cases q1:c.i+c.k=x.i
   ·exact .inr (Int.lt_iff_le_and_ne.mpr ⟨h2,λz=>q ⟨q1,z⟩⟩)
   ·exact .inl (Int.lt_iff_le_and_ne.mpr ⟨h1,q1⟩)
theorem nad_0(h:CH a b 0 0 l):NA a b am 0 0 (nad ⟨0,0,0⟩ l):=by
 cases h with
 |nil=>exact .nil
 | @cons i j t l h1 h2 X h=>
  rw[qF]
  show NA a b am 0 0 (if (0:Int)+0=t.i/\(0:Int)+0=t.j then nad ⟨0,0,0+t.k⟩ l else []++nad t l)
  by_cases q:(0:Int)+0=t.i/\(0:Int)+0=t.j
  ·refine rwL (bo q) ?_
   have e:(⟨0,0,0+t.k⟩:T3)=t:=by
    cases t
    cases q.1;cases q.2
    rw[ky];rfl
   exact rwL e (kY h X h1 h2 nofun)
  ·exact rwL (bc q) (kY h X h1 h2 nofun)
class inductive Cod(a b:ae Int):aj fq->Int->Int->ae Op->Prop
 |nil {f:aj fq}:Cod a b f a.length b.length []
 |eq {f:aj fq}{i j k:Int}{l:ae Op} (hf:f≠aa ak) (p:0<k) (m:Mt a b i j k) (h:Cod a b (aa ak) (i+k) (j+k) l):Cod a b f i j (⟨.eq,i,i+k,j,j+k⟩::l)
 |ch {f:aj fq}{i j i' j':Int}{g:Tg}{l:ae Op} (hf:f≠aa am) (hg:g≠ .eq) (hi:i<=i') (hj:j<=j') (lt:i<i'\/j<j') (h:Cod a b (aa am) i' j' l):Cod a b f i j (⟨g,i,i',j,j'⟩::l)
theorem Cod.gap(hf:f≠aa am)(hi:i<=i')(hj:j<=j')(h1:i=i'->j=j'->Cod a b f i j l)(h2:Cod a b (aa am) i' j' l):Cod a b f i j (Mine.Internal.gap i j i' j'++l):=by
 unfold Mine.Internal.gap
 by_cases q1:i<i'
 ·refine rwL (bo q1) ?_
  split
  ·exact .ch hf nofun hi hj (.inl q1) h2
  ·exact .ch hf nofun hi hj (.inl q1) h2
 ·rw[bc q1]
  by_cases q2:j<j'
  ·exact rwL (bo q2) (.ch hf nofun hi hj (.inr q2) h2)
  ·exact rwL (bc q2) (h1 (Int.le_antisymm hi (oy.mp q1)) (Int.le_antisymm hj (oy.mp q2)))
def fl(f:fq):aj fq:=if f=ak then aa ak else none
theorem NA.cod(h:NA a b f i j l)(hi:i<=a.length)(hj:j<=b.length):Cod a b (fl f) i j (ops i j (l++[⟨a.length,b.length,0⟩])):=by
 have nf:∀ f,fl f≠aa am:=λf=>by cases f<;>nofun
 induction h with
 | @nil f i j=>
  exact Cod.gap (nf f) hi hj (λe1 e2=>(rwL e1 (rwL e2 .nil))) .nil
 | @cons f i j t l h1 h2 st B h ih=>
  have E:=ih B.n.i1 B.n.j1
  rw[jw,fY,bc B.nz]
  refine Cod.gap (nf f) h1 h2 (λe1 e2=>?_) (.eq nofun B.p B.n.m E)
  subst e1 e2
  refine .eq (λz=>?_) B.p B.n.m E
  cases f with
  |false=>exact aF z
  |true=>rcases st rfl with q |q<;>exact ja _ q
theorem aF3(h:H[s]? =aa (.inst fs))(ha:fs "a" =aa .none)(hb:fs "b" =aa .none)(k:fV X [.ref s] (H.set s (.inst (fs2 (fs1 fs ra) rb))) λq H'=>Q .none H'):iK X [.ref s,.ref ra,.ref rb] H Q:=by
 refine kch (B:=(3=3/\(∃ ff,H[s]? =aa (.inst ff))/\iN X [.ref s,.ref ra] H λq H2=>(∃ ff,H2[s]? =aa (.inst ff))/\iM X [.ref s,.ref rb] H2 λq H3=>Q .none H3)) ⋯ ⟨rfl,⟨_,h⟩,tL X h ha ⟨⟨_,aK h _⟩,tJ X (aK h _) hb ?_⟩⟩
 rw[vd];exact k
def fs0F:Str->aj V:=fput (fput (fput (fput (λq=>none) "isjunk" .none) "a" .none) "b" .none) "autojunk" (.bool am)
def fsF(ra rb rd rj rp:Nat):Str->aj V:=fs3 (fs2 (fs1 fs0F ra) rb) rd rj rp
theorem aC0:sW X [.ref s,.none,.ref ra,.ref rb,.bool am] H Q=(5=5/\St s "isjunk" .none H λH1=>St s "a" .none H1 λH2=>St s "b" .none H2 λH3=>St s "autojunk" (.bool am) H3 λH4=>(∃ ff,H4[s]? =aa (.inst ff))/\iK X [.ref s,.ref ra,.ref rb] H4 λq H'=>Q .none H'):=by rfl'
theorem sY(ha:LI H ra a)(hb:LI H rb b)(al:a.length<1000000)(bl:b.length<1000000)(k:∀ {H' rd rj rp n f},Hx H H'->SM H' H.length ra rb rd rj n (fsF ra rb rd rj rp) f a b->(∀ v r,f v=aa (.ref r)->H[r]? =none)->Q (.ref H.length) H'):X.c_SM4 [.none,.ref ra,.ref rb,.bool am] H Q:=by
 have h0:=aV H (.inst λq=>none)
 have h1:=aK h0 (.inst (fput (λq=>none) "isjunk" .none))
 have h2:=aK h1 (.inst (fput (fput (λq=>none) "isjunk" .none) "a" .none))
 have h3:=aK h2 (.inst (fput (fput (fput (λq=>none) "isjunk" .none) "a" .none) "b" .none))
 have h4:=aK h3 (.inst fs0F)
 have x:=Hx.app H [.inst λq=>none]
 refine kch (aC0 X) ⟨rfl,St.mk h0 (St.mk h1 (St.mk h2 (St.mk h3 ⟨⟨_,h4⟩,aF3 X h4 ⋯ ⋯ ?_⟩)))⟩
 have h5:=aK h4 (.inst (fs2 (fs1 fs0F ra) rb))
 refine wI X (B:=H) (t:=am) h5 (((((x.set (aM H)).set (aM H)).set (aM H)).set (aM H)).set (aM H)) (aM H) hb bl nofun ⋯ ⋯ ⋯ λ{H' rd rj rp n f} e1 e2 e3 e4 e5 e6=>⟨rfl,k (rp:=rp) (rd:=rd) (rj:=rj) e1 ⟨e2,by rfl',by rfl',by rfl',by rfl',e1.li ha,e1.li hb,e3,e4,e5,al,bl⟩ e6⟩
def Wd.v(w:Wd):V:=.tup [.int w.al,.int w.ah,.int w.bl,.int w.bh]
def T3.v(t:T3):V:=.mat t.i t.j t.k
def T3.t(t:T3):V:=.tup [.int t.i,.int t.j,.int t.k]
structure GC where
 s:Nat
 la:Int
 lb:Int
 q:Nat
 m:Nat
def fG(s la lb q m al ah bl bh i j k x:aj V):Nv:=[("self",s),("la",la),("lb",lb),("queue",q),("matching_blocks",m),("alo",al),("ahi",ah),("blo",bl),("bhi",bh),("i",i),("j",j),("k",k),("x",x),("i1",none),("j1",none),("k1",none),("non_adjacent",none),("i2",none),("j2",none),("k2",none)]
def gL(c:GC)(al ah bl bh i j k x:aj V):Lo:=look (fG (aa (.ref c.s)) (aa (.int c.la)) (aa (.int c.lb)) (aa (.ref c.q)) (aa (.ref c.m)) al ah bl bh i j k x)
def gL'(c:GC)(w:Wd)(i j k x:aj V):Lo:=gL c (aa (.int w.al)) (aa (.int w.ah)) (aa (.int w.bl)) (aa (.int w.bh)) i j k x
def gI(X:XX C):SF:=aB (sIf (tE (eN "k")) (aB (aW (b9 (eN "matching_blocks") (eN "x"))) (aB (sIf (aZ (tE (aA (bA λx y=>decide (x<y)) (eN "alo") (eN "i"))) (aZ (tE (aA (bA λx y=>decide (x<y)) (eN "blo") (eN "j"))) (tK ak))) (aB (aW (b9 (eN "queue") (bE (esC (eN "alo") (esC (eN "i") (esC (eN "blo") (esC (eN "j") esN))))))) (sK .next)) (sK .next)) (aB (sIf (aZ (tE (aA (bA λx y=>decide (x<y)) (aA aH (eN "i") (eN "k")) (eN "ahi"))) (aZ (tE (aA (bA λx y=>decide (x<y)) (aA aH (eN "j") (eN "k")) (eN "bhi"))) (tK ak))) (aB (aW (b9 (eN "queue") (bE (esC (aA aH (eN "i") (eN "k")) (esC (eN "ahi") (esC (aA aH (eN "j") (eN "k")) (esC (eN "bhi") esN))))))) (sK .next)) (sK .next)) (sK .next)))) (sK .next)) (sK .next)
def gF:SF:=aB (cE (dJ (bM X) (eN "self") (esC (eN "alo") (esC (eN "ahi") (esC (eN "blo") (esC (eN "bhi") esN))))) (iO (cZ 3 (asC (aN "i") (asC (aN "j") (asC (aN "k") asN)))) (aN "x"))) (gI X)
def gB:SF:=aB (cE (wA (eN "queue")) (cZ 4 (asC (aN "alo") (asC (aN "ahi") (asC (aN "blo") (asC (aN "bhi") asN)))))) (gF X)
theorem pop_i(hx:lo x=aa (.ref r))(h:H[r]? =aa (.list (vs++[v])))(hl:vs.length<999999)(k:Q v (H.set r (.list vs))):wA (eN x) lo H Q:=by
 have e:(vs++[v]).length=vs.length+1:=by refine rwL af ?_;rfl
 refine Lf.mk hx (Lf.mk (p:=r) rfl (Lf.mk (eX h) ⟨by exact rwL e (Nat.succ_lt_succ hl),Lf.mk (p:=v) ?_ ?_⟩))
 ·rw[e,Nat.add_sub_cancel,dh (Nat.le_refl _),mz];rfl
 ·rw[e,Nat.add_sub_cancel,List.eraseIdx_append_of_length_le (Nat.le_refl _),mz]
  show Q v (H.set r (.list (vs++[])))
  rw[cw];exact k
theorem i8(hx:lo x=aa (.ref r))(hg:∀ (H:MH) (Q:EK),Q v H->g lo H Q)(h:H[r]? =aa (.list vs))(hl:vs.length<1000000)(k:K .next lo (H.set r (.list (vs++[v])))):aW (b9 (eN x) g) lo H K:=Lf.mk hx (Lf.mk (p:=r) rfl ⟨⟨_,h⟩,hg _ _ (Lf.mk (eX h) ⟨hl,k⟩)⟩)
inductive QI(a b:ae Int)(c:GC)(G:MH)(n:Nat)(lo:Lo)(H:MH):Prop
 |mk {q:ae Wd}{m:ae T3}{al ah bl bh i j k x:aj V} (el:lo=gL c al ah bl bh i j k x) (hx:Hx G H) (hq:H[c.q]? =aa (.list (q.reverse.map Wd.v))) (hm:H[c.m]? =aa (.list (m.map T3.v)))
   (w:∀ v∈q,WOk a b v) (r:∀ r,Run a b q m r->Run a b [⟨0,c.la,0,c.lb⟩] [] r) (n1:mu q<=n) (n2:m.length+mu q<=1000):QI a b c G n lo H
theorem gB_pop{X:XX C}(h:H[c.q]? =aa (.list (vs++[w.v])))(hl:vs.length<999999)(q:gF X (gL' c w i j k x) (H.set c.q (.list vs)) K):gB X (gL c al ah bl bh i j k x) H K:=by
 refine aO (lP (pop_i ⋯ h hl (kch (B:=(4=4/\gF X (upd (upd (upd (upd (gL c al ah bl bh i j k x) "alo" (.int w.al)) "ahi" (.int w.ah)) "blo" (.int w.bl)) "bhi" (.int w.bh)) (H.set c.q (.list vs)) K)) ⋯ ⟨rfl,?_⟩)))
 unfold gL
 rw[aD,aD,aD,aD]
 exact q
theorem gF_nf{X:XX C}:gF X (gL' c w i j k x) H K=((∃ ff,H[c.s]? =aa (.inst ff))/\bM X [.ref c.s,.int w.al,.int w.ah,.int w.bl,.int w.bh] H λv H2=> iO (cZ 3 (asC (aN "i") (asC (aN "j") (asC (aN "k") asN)))) (aN "x") v (gL' c w i j k x) H2 λlo' H3=>gI X lo' H3 K):=by rfl'
theorem gF_set{X:XX C}{t:T3}(q:gI X (gL' c w (aa (.int t.i)) (aa (.int t.j)) (aa (.int t.k)) (aa t.v)) H K):iO (cZ 3 (asC (aN "i") (asC (aN "j") (asC (aN "k") asN)))) (aN "x") t.v (gL' c w i j k x) H λlo' H3=>gI X lo' H3 K:=by
 refine kch (B:=(3=3/\gI X (upd (upd (upd (upd (gL' c w i j k x) "i" (.int t.i)) "j" (.int t.j)) "k" (.int t.k)) "x" t.v) H K)) ⋯ ⟨rfl,?_⟩
 unfold gL' gL
 rw[aD,aD,aD,aD]
 exact q
def gP1:SF:=aB (aW (b9 (eN "queue") (bE (esC (eN "alo") (esC (eN "i") (esC (eN "blo") (esC (eN "j") esN))))))) (sK .next)
def gP2:SF:=aB (aW (b9 (eN "queue") (bE (esC (aA aH (eN "i") (eN "k")) (esC (eN "ahi") (esC (aA aH (eN "j") (eN "k")) (esC (eN "bhi") esN))))))) (sK .next)
def gJ:SF:=aB (sIf (aZ (tE (aA (bA λx y=>decide (x<y)) (aA aH (eN "i") (eN "k")) (eN "ahi"))) (aZ (tE (aA (bA λx y=>decide (x<y)) (aA aH (eN "j") (eN "k")) (eN "bhi"))) (tK ak))) gP2 (sK .next)) (sK .next)
def gH:SF:=aB (sIf (aZ (tE (aA (bA λx y=>decide (x<y)) (eN "alo") (eN "i"))) (aZ (tE (aA (bA λx y=>decide (x<y)) (eN "blo") (eN "j"))) (tK ak))) gP1 (sK .next)) gJ
def gA:SF:=aB (aW (b9 (eN "matching_blocks") (eN "x"))) gH
def gT(c:GC)(w:Wd)(t:T3):Lo:=gL' c w (aa (.int t.i)) (aa (.int t.j)) (aa (.int t.k)) (aa t.v)
theorem gI_nf{X:XX C}:gI X (gT c w t) H K=(bif t.k != 0 then gA (gT c w t) H K else K .next (gT c w t) H):=by rfl'
theorem gH_nf:gH (gT c w t) H K=(bif decide (w.al<t.i) then bif decide (w.bl<t.j) then gP1 (gT c w t) H (bN gJ K) else gJ (gT c w t) H K else gJ (gT c w t) H K):=by rfl'
theorem gJ_nf:gJ (gT c w t) H K=(bif decide (t.i+t.k<w.ah) then bif decide (t.j+t.k<w.bh) then gP2 (gT c w t) H K else K .next (gT c w t) H else K .next (gT c w t) H):=by rfl'
theorem gP1_i(h:H[c.q]? =aa (.list vs))(hl:vs.length<1000000)(k:K .next (gT c w t) (H.set c.q (.list (vs++[Wd.v ⟨w.al,t.i,w.bl,t.j⟩])))):gP1 (gT c w t) H K:=by
 unfold gP1
 exact aO (i8 (K:=bN (sK .next) K) ⋯ (λH Q q=>kch (B:=(4<100/\Q (Wd.v ⟨w.al,t.i,w.bl,t.j⟩) H)) ⋯ ⟨by decide,q⟩) h hl k)
theorem gP2_i(h:H[c.q]? =aa (.list vs))(hl:vs.length<1000000)(k:K .next (gT c w t) (H.set c.q (.list (vs++[Wd.v ⟨t.i+t.k,w.ah,t.j+t.k,w.bh⟩])))):gP2 (gT c w t) H K:=by
 unfold gP2
 exact aO (i8 (K:=bN (sK .next) K) ⋯ (λH Q q=>kch (B:=(4<100/\Q (Wd.v ⟨t.i+t.k,w.ah,t.j+t.k,w.bh⟩) H)) ⋯ ⟨by decide,q⟩) h hl k)
def Ex(H H':MH)(i:Nat):Prop:=∀ (j:Nat) (m:MO),i≠j->H[j]? =aa m->H'[j]? =aa m
theorem Ex.set:Ex H (H.set i m) i:=λj x n e=>aE e n
theorem Ex.trans{H1:MH}(h:Ex H H1 i)(h':Ex H1 H2 i):Ex H H2 i:=λj m n e=>h' j m n (h j m n e)
theorem Ex.hx(h:Ex H H' i)(x:Hx G H)(hi:G[i]? =none):Hx G H':=λj m e=>h j m (λz=>by rw[z,e]at hi;exact cyM hi) (x j m e)
theorem n8(q:ae Wd)(w:Wd):(w::q).reverse.map Wd.v=q.reverse.map Wd.v++[w.v]:=by refine rwL List.reverse_cons (rwL au ?_);rfl
theorem qlen{q:ae Wd}(h:q.length<n):(q.reverse.map Wd.v).length<n:=by rw[ar,List.length_reverse];exact h
theorem gJ_i(h:H[c.q]? =aa (.list (q.reverse.map Wd.v)))(hl:q.length<1000000)(k:∀ {H'},H'[c.q]? =aa (.list ((iY w t.i t.j t.k q).reverse.map Wd.v))->Ex H H' c.q->K .next (gT c w t) H'):gJ (gT c w t) H K:=by
 unfold iY at k
 refine kch gJ_nf ?_
 by_cases q1:t.i+t.k<w.ah
 ·by_cases q2:t.j+t.k<w.bh
  ·rw[bo ⟨q1,q2⟩,n8]at k
   exact rwL (ay q1) (rwL (ay q2) (gP2_i h (qlen hl) (k (aK h _) .set)))
  ·rw[bc λz=>q2 z.2]at k
   exact rwL (ay q1) (rwL (cc q2) (k h λa a a e=>e))
 ·rw[bc λz=>q1 z.1]at k
  exact rwL (cc q1) (k h λa a a e=>e)
theorem gH_i(h:H[c.q]? =aa (.list (q.reverse.map Wd.v)))(hl:q.length<999999)(k:∀ {H'},H'[c.q]? =aa (.list ((iY w t.i t.j t.k (gW w t.i t.j q)).reverse.map Wd.v))->Ex H H' c.q->K .next (gT c w t) H'):gH (gT c w t) H K:=by
 unfold gW at k
 refine kch gH_nf ?_
 by_cases q1:w.al<t.i
 ·by_cases q2:w.bl<t.j
  ·rw[bo ⟨q1,q2⟩]at k
   exact rwL (ay q1) (rwL (ay q2) (gP1_i h (qlen (tq hl (by decide))) (gJ_i (K:=K) (q:=⟨w.al,t.i,w.bl,t.j⟩::q) (by rw[n8];exact aK h _) (Nat.succ_lt_succ hl) λh1 e=>k h1 (Ex.set.trans e))))
  ·rw[bc λz=>q2 z.2]at k
   exact rwL (ay q1) (rwL (cc q2) (gJ_i h (tq hl (by decide)) k))
 ·rw[bc λz=>q1 z.1]at k
  exact rwL (cc q1) (gJ_i h (tq hl (by decide)) k)
theorem q4(h:H[r]? =aa (.list vs))(hl:vs.length<1000000):tr (.ref r) H=aa (!vs.isEmpty):=by
 show(lst H (.ref r)).bind _=_
 exact rwL (aR h) (bo hl)
theorem q_step{rd:Nat}(S:SM G c.s ra rb rd rj n fs f a b)(gq:G[c.q]? =none)(gm:G[c.m]? =none)(qm:c.q≠c.m)(I:QI a b c G N lo H)(hQ:∀ {lo H},QI a b c G 0 lo H->Q .next lo H):tE (eN "queue") lo H λt H1=>bif t then ∀ K,GoK (λlo' H'=>∃ N',N'<N/\QI a b c G N' lo' H') Q K->gB X lo H1 K else Q .next lo H1:=by
 cases I with
 | @mk q m al ah bl bh i j k x el hx hq hm w r n1 n2=>
 subst el
 have ql:=rH q
 have ql2:q.length<1000000:=A184 n2 ql
 refine aP (x:="queue") (v:=.ref c.q) (Q:=λv H1=>Lf (tr v H1) λt=>bif t then ∀ K,GoK (λlo' H'=>∃ N',N'<N/\QI a b c G N' lo' H') Q K->gB X (gL c al ah bl bh i j k x) H1 K else Q .next (gL c al ah bl bh i j k x) H1) ⋯ (Lf.mk (q4 hq (qlen ql2)) ?_)
 cases q with
 |nil=>exact hQ (.mk rfl hx hq hm w r (Nat.le_refl _) n2)
 |cons w0 q=>
  rw[n8]at hq ⊢
  refine rwL (show (!(q.reverse.map Wd.v++[w0.v]).isEmpty)=ak by simp) ?_
  intro K go
  have ql3:q.length<999999:=Nat.lt_of_succ_lt_succ ql2
  refine gB_pop (w:=w0) hq (qlen ql3) (kch gF_nf ?_)
  have x1:Hx G (H.set c.q (.list (q.reverse.map Wd.v))):=hx.set gq
  have S1:=S.hx x1
  have w0k:=w w0 (.head _)
  refine⟨⟨_,S1.o⟩,flm_ok X S1 w0k λ{i j k H2} e2 B=>gF_set (t:=⟨i,j,k⟩) ?_⟩
  have hq2:=e2 _ _ (aK hq (.list (q.reverse.map Wd.v)))
  have hm2:=e2 _ _ (aE (m':=.list (q.reverse.map Wd.v)) hm qm)
  have x2:=x1.trans e2
  have wsz1:1<=wsz w0:=ph _ _
  refine kch gI_nf ?_
  by_cases k0:k=0
  ·subst k0
   refine go.nx ⟨mu q,?_,.mk rfl x2 hq2 hm2 (λv hv=>w v (.tail _ hv)) (λr' h=>r r' (.zero B h)) (Nat.le_refl _) ?_⟩
   ·have:mu (w0::q)=wsz w0+mu q:=rfl
    exact A185 n1 wsz1 this
   ·have:mu (w0::q)=wsz w0+mu q:=rfl
    exact A186 n2 this
  ·have kp:0<k:=by have:=B.n.k0;exact A187 k0 this
   refine rwL (show (k != 0)=ak from yi.mpr k0) ?_
   have ms:=aB0 (w:=w0) B kp q
   refine b3 (aO (aBb (r:=c.m) (v:=T3.v ⟨i,j,k⟩) ⋯ ⋯ hm2 (by rw[ar];exact A188 n2) (gH_i (K:=K) (aE hq2 qm.symm) ql3 λ{H'} h1 e=>go.nx ⟨_,Nat.lt_of_lt_of_le ms n1,.mk (m:=m++[⟨i,j,k⟩]) rfl (e.hx (x2.set gm) gq) h1 (rwL au (e _ _ qm (aK hm2 _))) (q8 w0k B λv hv=>w v (.tail _ hv)) (λr' h=>r r' (.pos B kp h)) (Nat.le_refl _) ?_⟩)))
   ·show(m++[_]).length+mu (iY w0 i j k (gW w0 i j q))<=1000
    exact rwL af (rwL az (A189 n2 ms))
def nL(c:GC)(o1 o2 o3 o4 o5 o6 o7 o8:aj V)(t:T3)(na:Nat)(u1 u2 u3:aj V):Lo:=look [("self",aa (.ref c.s)),("la",aa (.int c.la)),("lb",aa (.int c.lb)),("queue",aa (.ref c.q)),("matching_blocks",aa (.ref c.m)),("alo",o1),("ahi",o2),("blo",o3),("bhi",o4),("i",o5),("j",o6),("k",o7),("x",o8),
  ("i1",aa (.int t.i)),("j1",aa (.int t.j)),("k1",aa (.int t.k)),("non_adjacent",aa (.ref na)),("i2",u1),("j2",u2),("k2",u3)]
def nT:AF:=cZ 3 (asC (aN "i2") (asC (aN "j2") (asC (aN "k2") asN)))
def nS:SF:=aB (cS ["i1","j1","k1"] (bE (esC (eN "i2") (esC (eN "j2") (esC (eN "k2") esN))))) (sK .next)
def nP:SF:=aB (aW (b9 (eN "non_adjacent") (bE (esC (eN "i1") (esC (eN "j1") (esC (eN "k1") esN)))))) (sK .next)
def nE:SF:=aB (sIf (tE (eN "k1")) nP (sK .next)) nS
def nB:SF:=aB (sIf (aZ (tE (aA (bG id) (aA aH (eN "i1") (eN "k1")) (eN "i2"))) (aZ (tE (aA (bG id) (aA aH (eN "j1") (eN "k1")) (eN "j2"))) (tK ak))) (aB (zC "k1" zF (eN "k2")) (sK .next)) nE) (sK .next)
def nX(c:GC)(o1 o2 o3 o4 o5 o6 o7 o8:aj V)(t:T3)(na:Nat)(x:T3):Lo:=nL c o1 o2 o3 o4 o5 o6 o7 o8 t na (aa (.int x.i)) (aa (.int x.j)) (aa (.int x.k))
theorem nT_i{o2 o3:aj V}(q:nB (nX c o1 o2 o3 o4 o5 o6 o7 o8 t na x) H K):nT x.v (nL c o1 o2 o3 o4 o5 o6 o7 o8 t na u1 u2 u3) H λlo1 H1=>nB lo1 H1 K:=by
 refine kch (B:=(3=3/\nB (upd (upd (upd (nL c o1 o2 o3 o4 o5 o6 o7 o8 t na u1 u2 u3) "i2" (.int x.i)) "j2" (.int x.j)) "k2" (.int x.k)) H K)) ⋯ ⟨rfl,?_⟩
 unfold nL
 rw[aD,aD,aD]
 exact q
theorem nB_nf{o2 o3:aj V}:nB (nX c o1 o2 o3 o4 o5 o6 o7 o8 t na x) H K=(bif decide (t.i+t.k=x.i) then bif decide (t.j+t.k=x.j) then K .next (upd (nX c o1 o2 o3 o4 o5 o6 o7 o8 t na x) "k1" (.int (t.k+x.k))) H else nE (nX c o1 o2 o3 o4 o5 o6 o7 o8 t na x) H (bN (sK .next) K) else nE (nX c o1 o2 o3 o4 o5 o6 o7 o8 t na x) H (bN (sK .next) K)):=by rfl'
theorem nE_nf{o2 o3:aj V}:nE (nX c o1 o2 o3 o4 o5 o6 o7 o8 t na x) H K=(bif t.k != 0 then nP (nX c o1 o2 o3 o4 o5 o6 o7 o8 t na x) H (bN nS K) else nS (nX c o1 o2 o3 o4 o5 o6 o7 o8 t na x) H K):=by rfl'
theorem nP_i{o2 o3:aj V}(h:H[na]? =aa (.list vs))(hl:vs.length<1000000)(k:K .next (nL c o1 o2 o3 o4 o5 o6 o7 o8 t na u1 u2 u3) (H.set na (.list (vs++[t.t])))):nP (nL c o1 o2 o3 o4 o5 o6 o7 o8 t na u1 u2 u3) H K:=by
 unfold nP
 exact aO (i8 (K:=bN (sK .next) K) ⋯ (λH Q q=>kch (B:=(3<100/\Q t.t H)) ⋯ ⟨by decide,q⟩) h hl k)
theorem nS_i{o2 o3:aj V}(q:K .next (nX c o1 o2 o3 o4 o5 o6 o7 o8 x na x) H):nS (nX c o1 o2 o3 o4 o5 o6 o7 o8 t na x) H K:=by
 refine kch (B:=(3<100/\3=3/\K .next (upd (upd (upd (nX c o1 o2 o3 o4 o5 o6 o7 o8 t na x) "k1" (.int x.k)) "j1" (.int x.j)) "i1" (.int x.i)) H)) ⋯ ⟨by decide,rfl,?_⟩
 unfold nX nL
 rw[aD,aD,aD]
 exact q
theorem nK_i{o2 o3:aj V}(q:K .next (nX c o1 o2 o3 o4 o5 o6 o7 o8 ⟨t.i,t.j,k⟩ na x) H):K .next (upd (nX c o1 o2 o3 o4 o5 o6 o7 o8 t na x) "k1" (.int k)) H:=by
 unfold nX nL
 rw[aD]
 exact q
inductive NI(c:GC)(na:Nat)(G:MH)(all:ae T3)(rest:ae V)(lo:Lo)(H:MH):Prop
 |mk {o1 o2 o3 o4 o5 o6 o7 o8 u1 u2 u3:aj V}{t:T3}{acc l:ae T3} (el:lo=nL c o1 o2 o3 o4 o5 o6 o7 o8 t na u1 u2 u3) (er:rest=l.map T3.v) (hx:Hx G H) (hn:H[na]? =aa (.list (acc.map T3.t)))
   (e:acc++nad t l=all) (n:acc.length+l.length<=1000):NI c na G all rest lo H
theorem n_step(gn:G[na]? =none)(I:NI c na G all (v::rest) lo H)(go:GoK (NI c na G all rest) Q K):nT v lo H λlo1 H1=>nB lo1 H1 K:=by
 cases I with
 | @mk o1 o2 o3 o4 o5 o6 o7 o8 u1 u2 u3 t acc l el er hx hn e n=>
 refine cC (List.map_eq_cons_iff.mp er.symm) λx l' e1 e2 e3=>?_
 subst e1 e2 e3 el
 rw[di]at n
 refine nT_i (kch nB_nf ?_)
 rw[qF]at e
 have other: ¬(t.i+t.k=x.i/\t.j+t.k=x.j)->nE (nX c o1 o2 o3 o4 o5 o6 o7 o8 t na x) H (bN (sK .next) K):=λz=>by
  rw[bc z]at e
  refine kch nE_nf ?_
  by_cases q:t.k=0
  ·rw[bo q]at e
   exact rwL (show (t.k != 0)=am from by refine rwL q ?_;rfl) (bT (nS_i (K:=bN (sK .next) K) (go.nx (.mk rfl rfl hx hn e (A190 n)))))
  ·rw[bc q]at e
   refine rwL (show (t.k != 0)=ak from yi.mpr q) (b3 (nP_i (K:=bN nS (bN (sK .next) K)) hn (by rw[ar];exact A191 n) (nS_i (K:=bN (sK .next) K) (go.nx (.mk (acc:=acc++[t]) rfl rfl (hx.set gn) (rwL au (aK hn _)) ?_ ?_)))))
   ·rw[bn];exact e
   ·exact rwL af (rwL az (A192 n))
 by_cases q1:t.i+t.k=x.i
 ·by_cases q2:t.j+t.k=x.j
  ·rw[bo ⟨q1,q2⟩]at e
   exact rwL (ay q1) (rwL (ay q2) (nK_i (K:=K) (go.nx (.mk rfl rfl hx hn e (A190 n)))))
  ·exact rwL (ay q1) (rwL (cc q2) (other λz=>q2 z.2))
 ·exact rwL (cc q1) (other λz=>q1 z.1)
theorem aGg{P:aj (V×(Nat×Nat))->MH->Prop}{hm:pQ C 2}(hl:lst H (.ref r)=aa vs)(e:vs[p]? =none)(h:P none H):(rS C 2 hm).nx (r,p) H P:=Lf.mk hl (by show(match vs[p]? with |none=>P none H |some v=>_);exact rwL e h)
theorem aGf{P:aj (V×(Nat×Nat))->MH->Prop}{hm:pQ C 2}{t:T3}(hl:lst H (.ref r)=aa vs)(e:vs[p]? =aa t.t)(h:P (aa (t.v,(r,p+1))) H):(rS C 2 hm).nx (r,p) H P:=Lf.mk hl (by show(match vs[p]? with |none=>P none H |some v=>Lf (t3 v) λq=>P (aa (.mat q.1 q.2.1 q.2.2,(r,p+1))) H);exact rwL e h)
theorem xJ{hm:pQ C 2}(hl:G[na]? =aa (.list (l.map T3.t)))(ga:G[ai]? =none)(ll:l.length<1000000)(k:∀ {H'},Hx G H'->H'[ai]? =aa (.list (l.map T3.v))->P H'):∀ (rest done:ae T3){H:MH},done++rest=l->Hx G H->H[ai]? =aa (.list (done.map T3.v))->f9 (rS C 2 hm) ai (rest.length+1) (na,done.length) H P
 | [],done,H,e,hx,h=>by
  rw[cw]at e
  subst e
  exact aGg (aR (hx _ _ hl)) (ji (by rw[ar];exact Nat.le_refl _)) (k hx h)
 |t::rest,done,H,e,hx,h=>by
  refine aGf (t:=t) (aR (hx _ _ hl)) ?_ (Lf.mk (eX h) ⟨?_,?_⟩)
  ·rw[jm,<-e,dh (Nat.le_refl _),mz];rfl
  ·rw[ar]
   rw[<-e,af]at ll
   exact nq (pu _ _) ll
  ·have:=xJ (hm:=hm) hl ga ll k rest (done++[t]) (H:=H.set ai (.list (done.map T3.v++[t.v]))) (by rw[bn];exact e) (hx.set ga) (rwL au (aK h _))
   rw[af]at this
   exact this
theorem len_i(h:LI H r l)(hl:l.length<1000000)(q:Q (.int l.length) H):bY [.ref r] H Q:=by
 refine Lp.mk (v:=.int l.length) (H:=H) ?_ q
 show(lst H (.ref r)).bind _=_
 refine rwL h ?_
 show(if (l.map V.int).length<1000000 then _ else _)=_
 rw[ar,bo hl]
theorem xR(x:T3):∀ l:ae T3,ins dZ x.v (l.map T3.v)=(ins T3.i x l).map T3.v
 | []=>rfl
 |y::r=>by
  show(if x.i<y.i then x.v::y.v::r.map T3.v else y.v::ins dZ x.v (r.map T3.v))=(if x.i<y.i then x::y::r else y::ins T3.i x r).map T3.v
  refine rwL (xR x r) ?_
  split<;>rfl
theorem qJ:∀ l:ae T3,isort dZ (l.map T3.v)=(isort T3.i l).map T3.v
 | []=>rfl
 |x::r=>by
  refine(?_:ins dZ x.v (isort dZ (r.map T3.v))=(ins T3.i x (isort T3.i r)).map T3.v)
  rw[qJ r,xR]
def Blocks(a b:ae Int)(bl:ae T3):Prop:=∃ r,Run a b [⟨0,a.length,0,b.length⟩] [] r/\bl=nad ⟨0,0,0⟩ (isort T3.i r)++[⟨a.length,b.length,0⟩]
theorem Blocks.uniq(h:Blocks a b l)(h':Blocks a b l'):l=l':=by
 refine xEA h λr h1 h2=>xEA h' λr' h3 h4=>?_
 cases h1.uniq h3
 exact rwL h2 (rwL h4 rfl)
theorem fG_0:loB ["self"] [.ref s] lo0=look (fG (aa (.ref s)) none none none none none none none none none none none none):=by
 refine rwR (fU (fG none none none none none none none none none none none none none) ⋯) ?_
 show upd _ "self" (.ref s)=_
 rw[aD];kernel_rfl
def gR6:SF:=aB (dU X) (aB (dT X) (aB (dR X) (aB (cH X) (aB (b8 X) (aB (bH X) (aB (b7 X) (aB (b6 X) (sK .next))))))))
def gR2:SF:=aB (dV X) (aB (bR X) (aB (bQ X) (aB (bO X) (gR6 X))))
theorem aGy:bF X [.ref s] H Q=(1=1/\At s "matching_blocks" H λv=>Lp (oIs not v .none H) λv H1=>Lf (tr v H1) λb=>bif b then At s "matching_blocks" H1 λv=>Q v H1 else gR2 X (loB ["self"] [.ref s] lo0) H1 (mW Q)):=by rfl'
theorem g_2:gR2 X (look (fG (aa (.ref s)) none none none none none none none none none none none none)) H K=(At s "a" H λva=>bY [va] H λn H1=>At s "b" H1 λvb=>bY [vb] H1 λm H2=>2<100/\2=2/\ aB (bR X) (aB (bQ X) (aB (bO X) (gR6 X))) (upd (upd (look (fG (aa (.ref s)) none none none none none none none none none none none none)) "lb" m) "la" n) H2 K):=by rfl'
theorem g_34:aB (bR X) (aB (bQ X) (aB (bO X) (gR6 X))) (look (fG (aa (.ref s)) (aa (.int la)) (aa (.int lb)) none none none none none none none none none none)) H K= (4<100/\∃ n,runW (tE (eN "queue")) (gB X) n (upd (upd (look (fG (aa (.ref s)) (aa (.int la)) (aa (.int lb)) none none none none none none none none none none)) "queue" (.ref H.length)) "matching_blocks" (.ref (H++[MO.list [Wd.v ⟨0,la,0,lb⟩]]).length)) ((H++[.list [Wd.v ⟨0,la,0,lb⟩]])++[.list []]) (bN (gR6 X) K)):=by rfl'
theorem aFt(h:tE (eN x) lo H P)(k:∀ c H',P c H'->P' c H'):tE (eN x) lo H P':=Lf.elim h λv e h=>Lf.mk e (Lf.elim h λc e h=>Lf.mk e (k _ _ h))
def gR12:SF:=aB (b7 X) (aB (b6 X) (sK .next))
def zR:SF:=aB (bH X) (gR12 X)
def gR10:SF:=aB (b8 X) (zR X)
def gR9:SF:=aB (cH X) (gR10 X)
theorem g_6{o2 o3:aj V}:gR6 X (gL c o1 o2 o3 o4 o5 o6 o7 o8) H K=(Lf (H[c.m]?.bind MO.own) λvs=>okSort vs/\gR9 X (upd (upd (upd (upd (gL c o1 o2 o3 o4 o5 o6 o7 o8) "i1" (.int 0)) "j1" (.int 0)) "k1" (.int 0)) "non_adjacent" (.ref (H.set c.m (.list (isort dZ vs))).length)) (H.set c.m (.list (isort dZ vs))++[.list []]) K):=by rfl'
theorem g_6n{o2 o3:aj V}:upd (upd (upd (upd (gL c o1 o2 o3 o4 o5 o6 o7 o8) "i1" (.int 0)) "j1" (.int 0)) "k1" (.int 0)) "non_adjacent" (.ref na)=nL c o1 o2 o3 o4 o5 o6 o7 o8 ⟨0,0,0⟩ na none none none:=by
 unfold gL nL
 rw[aD,aD,aD,aD];kernel_rfl
theorem g_9{o2 o3:aj V}:gR9 X (nL c o1 o2 o3 o4 o5 o6 o7 o8 t na u1 u2 u3) H K=((∃ vs,lst H (.ref c.m)=aa vs)/\∃ n,cU (bZ C) nT nB n (c.m,0) (nL c o1 o2 o3 o4 o5 o6 o7 o8 t na u1 u2 u3) H (bN (gR10 X) K)):=by rfl'
theorem g_10{o2 o3:aj V}:gR10 X (nL c o1 o2 o3 o4 o5 o6 o7 o8 t na u1 u2 u3) H K=(bif t.k != 0 then nP (nL c o1 o2 o3 o4 o5 o6 o7 o8 t na u1 u2 u3) H (bN (zR X) K) else zR X (nL c o1 o2 o3 o4 o5 o6 o7 o8 t na u1 u2 u3) H K):=by rfl'
theorem g_12{o2 o3:aj V}:gR12 X (nL c o1 o2 o3 o4 o5 o6 o7 o8 t na u1 u2 u3) H (mW Q)=((∃ vs,lst H (.ref na)=aa vs)/\∃ n,f9 (rS C 2 X.makeM) H.length n (na,0) (H++[.list []]) λH2=>St c.s "matching_blocks" (.ref H.length) H2 λH3=>At c.s "matching_blocks" H3 λv=>Q v H3):=by rfl'
theorem g_11{o2 o3:aj V}(h:H[na]? =aa (.list vs))(hl:vs.length<1000000)(k:gR12 X (nL c o1 o2 o3 o4 o5 o6 o7 o8 t na u1 u2 u3) (H.set na (.list (vs++[T3.t ⟨c.la,c.lb,0⟩]))) K):zR X (nL c o1 o2 o3 o4 o5 o6 o7 o8 t na u1 u2 u3) H K:=by
 unfold zR bH
 exact aO (i8 (v:=T3.t ⟨c.la,c.lb,0⟩) (K:=bN (gR12 X) K) ⋯ (λH Q q=>kch (B:=(3<100/\Q (T3.t ⟨c.la,c.lb,0⟩) H)) ⋯ ⟨by decide,q⟩) h hl k)
theorem g_1011{o2 o3:aj V}(h:H[na]? =aa (.list (acc.map T3.t)))(hl:acc.length<999999)(e:acc++nad t []=all)(k:∀ {H'},Ex H H' na->H'[na]? =aa (.list ((all++[T3.mk c.la c.lb 0]).map T3.t))->gR12 X (nL c o1 o2 o3 o4 o5 o6 o7 o8 t na u1 u2 u3) H' K):gR10 X (nL c o1 o2 o3 o4 o5 o6 o7 o8 t na u1 u2 u3) H K:=by
 refine kch (g_10 X) ?_
 rw[tX]at e
 subst e
 by_cases q:t.k=0
 ·rw[bo q,cw]at k
  exact rwL (show (t.k != 0)=am from by refine rwL q ?_;rfl) (bT (g_11 X h (by rw[ar];exact tq hl (by decide)) (k .set (rwL au (aK h _)))))
 ·rw[bc q]at k
  refine rwL (show (t.k != 0)=ak from yi.mpr q) ?_
  have h1:=aK h (.list (acc.map T3.t++[t.t]))
  exact b3 (nP_i (K:=bN (zR X) K) h (by rw[ar];exact tq hl (by decide)) (g_11 X h1 (by rw[af,ar];exact Nat.succ_lt_succ hl) (k (Ex.set.trans .set) (rwL au (rwL au (aK h1 _))))))
theorem gmb_ok{rd:Nat}(S:SM H s ra rb rd rj n fs f a b)(hm:fs "matching_blocks" =aa .none)(al:a.length<200)(ok:∀ r,Run a b [⟨0,a.length,0,b.length⟩] [] r->okSort (r.map T3.v))(k:∀ {H' r bl},Ex H H' s->H[r]? =none->r≠s->H'[s]? =aa (.inst (fput fs "matching_blocks" (.ref r)))->H'[r]? =aa (.list (bl.map T3.v))->Blocks a b bl->Q (.ref r) H'):bF X [.ref s] H Q:=by
 refine kch (aGy X) ⟨rfl,At.mk S.o hm (Lp.mk (v:=.bool am) (H:=H) rfl (Lf.mk (p:=am) rfl (bT (rwL fG_0 (kch (g_2 X) (At.mk S.o S.fa (len_i S.ia S.al (At.mk S.o S.fb (len_i S.ib S.bl ⟨by decide,rfl,?_⟩)))))))))⟩
 rw[aD,aD]
 refine kch (g_34 X) ⟨by decide,2000,?_⟩
 rw[aD,aD]
 have x0:Hx H ((H++[MO.list [Wd.v ⟨0,a.length,0,b.length⟩]])++[MO.list []]):=(Hx.app _ _).trans (.app _ _)
 have el:(H++[MO.list [Wd.v ⟨0,a.length,0,b.length⟩]]).length=H.length+1:=af
 have gm:H[(H++[MO.list [Wd.v ⟨0,a.length,0,b.length⟩]]).length]? =none:=rwL el (ji (ym _))
 have qm:H.length≠(H++[MO.list [Wd.v ⟨0,a.length,0,b.length⟩]]).length:=rwL el ((uc _).symm)
 refine while_ (QI a b ⟨s,a.length,b.length,H.length,(H++[MO.list [Wd.v ⟨0,a.length,0,b.length⟩]]).length⟩ H) (λI=>q_step X (c:=⟨s,a.length,b.length,H.length,(H++[MO.list [Wd.v ⟨0,a.length,0,b.length⟩]]).length⟩) S (aM H) gm qm I ?_) aFt 2000 1000 (by decide)
  (.mk (q:=[⟨0,a.length,0,b.length⟩]) (m:=[]) rfl x0 (Hx.app _ _ _ _ (aV _ _)) (aV _ _) (λv hv=>?_) (λr h=>h) ?_ ?_)
 ·intro lo H1 I
  cases I with
  | @mk q m o1 o2 o3 o4 o5 o6 o7 o8 el hx hq hm w r n1 n2=>
  subst el
  have q0:q= []:=dq (Nat.le_zero.mp (Nat.le_trans (rH q) n1))
  subst q0
  have run:=r m .nil
  have ml:m.length<=1000:=n2
  refine kch (g_6 X) (Lf.mk (eX hm) ⟨ok m run,?_⟩)
  rw[g_6n,qJ]
  have h2:=aK hm (.list ((isort T3.i m).map T3.v))
  have x2:Hx H _:=hx.set (m:=.list ((isort T3.i m).map T3.v)) gm
  revert h2 x2
  generalize H1.set _ (.list ((isort T3.i m).map T3.v))=H2
  intro h2 x2
  have sl:(isort T3.i m).length<=1000:=rwL ((bW T3.i m).length_eq) ml
  refine kch (g_9 X) ⟨⟨_,aR (Hx.app _ _ _ _ h2)⟩,_,jF (NI ⟨s,a.length,b.length,H.length,_⟩ H2.length H2 (nad ⟨0,0,0⟩ (isort T3.i m))) (λI=>?_) (λI=>?_) (λI go=>n_step (aM H2) I go) ((isort T3.i m).map T3.v) 0 rfl
   (.mk (acc:=[]) rfl rfl (.app _ _) (aV _ _) rfl (by rw[og,Nat.zero_add];exact sl))⟩
  ·cases I with
   |mk el er hx=>exact aR (hx _ _ h2)
  ·cases I with
   | @mk p1 p2 p3 p4 p5 p6 p7 p8 u1 u2 u3 t acc l el er hx hn e n=>
   subst el
   cases pj.mp er.symm
   refine g_1011 X hn (by rw[og]at n;exact A193 n) e λ{H6} x6 h6=>kch (g_12 X) ⟨⟨_,aR h6⟩,_,xJ h6 (aM H6) ?_ (λ{H7} x7 h7=>?_) _ [] (kn _) (.app _ _) (aV _ _)⟩
   ·have:(nad t []).length<=1:=by
     rw[tX];split
     ·exact jo 1
     ·exact Nat.le_refl 1
    have e2:(nad ⟨0,0,0⟩ (isort T3.i m)).length=acc.length+(nad t []).length:=by exact rwR e (rwL af rfl)
    exact rwL af (rwL az (A194 n this e2))
   ·have e7:Hx H H7:=(x2.trans (x6.hx hx (aM H2))).trans x7
    have s7:=e7 _ _ S.o
    have sne:H6.length≠s:=λz=>by
     have:=(x2.trans (x6.hx hx (aM H2))) _ _ S.o
     rw[<-z,aM]at this;exact aF this
    refine St.mk s7 (At.mk (v:=.ref H6.length) (aK s7 _) ⋯ (k (λj m n e=>aE (e7 _ _ e) n) ((x2.trans (x6.hx hx (aM H2))).fresh) sne (aK s7 _) (aE h7 sne.symm) ⟨m,run,rfl⟩))
 ·cases cq.mp hv
  exact⟨dj _,ee _,dj _,dj _,ee _,dj _⟩
 ·exact(Yj1 al:2*((a.length:Int)-0).toNat+1+0<=1000)
 ·exact(Yj0 al:0+(2*((a.length:Int)-0).toNat+1+0)<=1000)
def Tg.s:Tg->Str | .rep=> "replace" | .del=> "delete" | .ins=> "insert" | .eq=> "equal"
def Op.v(o:Op):V:=.tup [.str o.tag.s,.int o.i1,.int o.i2,.int o.j1,.int o.j2]
def oL(s ans:Nat)(i j:Int)(u1 u2 u3 u4:aj V):Lo:=look [("self",aa (.ref s)),("i",aa (.int i)),("j",aa (.int j)),("answer",aa (.ref ans)),("ai",u1),("bj",u2),("size",u3),("tag",u4)]
def oX(s ans:Nat)(i j:Int)(t:T3)(u4:aj V):Lo:=oL s ans i j (aa (.int t.i)) (aa (.int t.j)) (aa (.int t.k)) u4
def oT:AF:=cZ 3 (asC (aN "ai") (asC (aN "bj") (asC (aN "size") asN)))
def oP1:SF:=aB (aW (b9 (eN "answer") (bE (esC (eN "tag") (esC (eN "i") (esC (eN "ai") (esC (eN "j") (esC (eN "bj") esN)))))))) (sK .next)
def oP2:SF:=aB (aW (b9 (eN "answer") (bE (esC (eK (.str "equal")) (esC (eN "ai") (esC (eN "i") (esC (eN "bj") (esC (eN "j") esN)))))))) (sK .next)
def oR3:SF:=aB (sIf (tE (eN "size")) oP2 (sK .next)) (sK .next)
def oR2:SF:=aB (cS ["i","j"] (bE (esC (aA aH (eN "ai") (eN "size")) (esC (aA aH (eN "bj") (eN "size")) esN)))) oR3
def oR:SF:=aB (sIf (tE (eN "tag")) oP1 (sK .next)) oR2
def oBR(R:SF):SF:=aB (aY "tag" (eK (.str ""))) (aB (sIf (aZ (tE (aA (bA λx y=>decide (x<y)) (eN "i") (eN "ai"))) (aZ (tE (aA (bA λx y=>decide (x<y)) (eN "j") (eN "bj"))) (tK ak))) (aB (aY "tag" (eK (.str "replace"))) (sK .next)) (aB (sIf (tE (aA (bA λx y=>decide (x<y)) (eN "i") (eN "ai"))) (aB (aY "tag" (eK (.str "delete"))) (sK .next)) (aB (sIf (tE (aA (bA λx y=>decide (x<y)) (eN "j") (eN "bj"))) (aB (aY "tag" (eK (.str "insert"))) (sK .next)) (sK .next)) (sK .next))) (sK .next))) R)
def oB:SF:=oBR oR
theorem oT_i(q:oB (oX s ans i j t u4) H K):oT t.v (oL s ans i j u1 u2 u3 u4) H λlo1 H1=>oB lo1 H1 K:=by
 refine kch (B:=(3=3/\oB (upd (upd (upd (oL s ans i j u1 u2 u3 u4) "ai" (.int t.i)) "bj" (.int t.j)) "size" (.int t.k)) H K)) ⋯ ⟨rfl,?_⟩
 unfold oL
 rw[aD,aD,aD]
 exact q
theorem aBm(q:oR (oX s ans i j t (aa (.str y))) H K):oR (upd (upd (oX s ans i j t u4) "tag" (.str x)) "tag" (.str y)) H K:=by
 unfold oX oL
 rw[aD,aD]
 exact q
theorem o_tag0(q:oR (oX s ans i j t (aa (.str x))) H K):oR (upd (oX s ans i j t u4) "tag" (.str x)) H K:=by
 unfold oX oL
 rw[aD]
 exact q
theorem oB_nf(R:SF):oBR R (oX s ans i j t u4) H K=(bif decide (i<t.i) then bif decide (j<t.j) then R (upd (upd (oX s ans i j t u4) "tag" (.str "")) "tag" (.str "replace")) H K else(bif decide (i<t.i) then R (upd (upd (oX s ans i j t u4) "tag" (.str "")) "tag" (.str "delete")) H K else bif decide (j<t.j) then R (upd (upd (oX s ans i j t u4) "tag" (.str "")) "tag" (.str "insert")) H K else R (upd (oX s ans i j t u4) "tag" (.str "")) H K) else(bif decide (i<t.i) then R (upd (upd (oX s ans i j t u4) "tag" (.str "")) "tag" (.str "delete")) H K else bif decide (j<t.j) then R (upd (upd (oX s ans i j t u4) "tag" (.str "")) "tag" (.str "insert")) H K else R (upd (oX s ans i j t u4) "tag" (.str "")) H K)):=by rfl'
theorem t_rep:Str.ofString "replace" =Tg.s .rep:=rfl
theorem t_del:Str.ofString "delete" =Tg.s .del:=rfl
theorem t_ins:Str.ofString "insert" =Tg.s .ins:=rfl
theorem oR_0:oR (oX s ans i j t (aa (.str ""))) H K=oR2 (oX s ans i j t (aa (.str ""))) H K:=by rfl'
theorem oR_1(g:Tg):oR (oX s ans i j t (aa (.str g.s))) H K=oP1 (oX s ans i j t (aa (.str g.s))) H (bN oR2 K):=by cases g<;>kernel_rfl
theorem oP1_i(h:H[ans]? =aa (.list vs))(hl:vs.length<1000000)(k:K .next (oX s ans i j t (aa (.str x))) (H.set ans (.list (vs++[.tup [.str x,.int i,.int t.i,.int j,.int t.j]])))):oP1 (oX s ans i j t (aa (.str x))) H K:=by
 unfold oP1
 exact aO (i8 (v:=.tup [.str x,.int i,.int t.i,.int j,.int t.j]) (K:=bN (sK .next) K) ⋯ (λH Q q=>kch (B:=(5<100/\Q (.tup [.str x,.int i,.int t.i,.int j,.int t.j]) H)) ⋯ ⟨by decide,q⟩) h hl k)
theorem oR2_i(q:oR3 (oX s ans (t.i+t.k) (t.j+t.k) t u4) H K):oR2 (oX s ans i j t u4) H K:=by
 refine kch (B:=(2<100/\2=2/\oR3 (upd (upd (oX s ans i j t u4) "j" (.int (t.j+t.k))) "i" (.int (t.i+t.k))) H K)) ⋯ ⟨by decide,rfl,?_⟩
 unfold oX oL
 rw[aD,aD]
 exact q
theorem oR3_nf:oR3 (oX s ans i j t u4) H K=(bif t.k != 0 then oP2 (oX s ans i j t u4) H (bN (sK .next) K) else K .next (oX s ans i j t u4) H):=by rfl'
theorem oP2_i(h:H[ans]? =aa (.list vs))(hl:vs.length<1000000)(k:K .next (oX s ans i j t u4) (H.set ans (.list (vs++[Op.v ⟨.eq,t.i,i,t.j,j⟩])))):oP2 (oX s ans i j t u4) H K:=by
 unfold oP2
 exact aO (i8 (v:=Op.v ⟨.eq,t.i,i,t.j,j⟩) (K:=bN (sK .next) K) ⋯ (λH Q q=>kch (B:=(5<100/\Q (Op.v ⟨.eq,t.i,i,t.j,j⟩) H)) ⋯ ⟨by decide,q⟩) h hl k)
theorem oR2_k(h:H[ans]? =aa (.list (acc.map Op.v)))(hl:acc.length<1000000)(k:∀ {H'},Ex H H' ans->H'[ans]? =aa (.list ((acc++if t.k=0 then [] else [Op.mk .eq t.i (t.i+t.k) t.j (t.j+t.k)]).map Op.v))->K .next (oX s ans (t.i+t.k) (t.j+t.k) t u4) H'):oR2 (oX s ans i j t u4) H K:=by
 refine oR2_i (kch oR3_nf ?_)
 by_cases q:t.k=0
 ·rw[bo q,cw]at k
  exact rwL (show (t.k != 0)=am from by refine rwL q ?_;rfl) (bT (k (λa a a e=>e) h))
 ·rw[bc q,au]at k
  exact rwL (show (t.k != 0)=ak from yi.mpr q) (b3 (oP2_i (K:=bN (sK .next) K) h (by rw[ar];exact hl) (k .set (aK h _))))
theorem oR_k(g:Tg)(h:H[ans]? =aa (.list (acc.map Op.v)))(hl:acc.length<999999)(k:∀ {H'},Ex H H' ans->H'[ans]? =aa (.list (((acc++[Op.mk g i t.i j t.j])++if t.k=0 then [] else [Op.mk .eq t.i (t.i+t.k) t.j (t.j+t.k)]).map Op.v))->K .next (oX s ans (t.i+t.k) (t.j+t.k) t (aa (.str g.s))) H'):oR (oX s ans i j t (aa (.str g.s))) H K:=by
 refine kch (oR_1 g) (oP1_i (K:=bN oR2 K) h (by rw[ar];exact tq hl (by decide)) (oR2_k (K:=K) (acc:=acc++[Op.mk g i t.i j t.j]) (rwL au (aK h _)) ?_ λe h'=>k (Ex.set.trans e) h'))
 ·exact rwL af (Nat.succ_lt_succ hl)
theorem oB_k(h:H[ans]? =aa (.list (acc.map Op.v)))(hl:acc.length<999999)(k:∀ {H' u},Ex H H' ans->H'[ans]? =aa (.list ((acc++(gap i j t.i t.j++if t.k=0 then [] else [Op.mk .eq t.i (t.i+t.k) t.j (t.j+t.k)])).map Op.v))->K .next (oX s ans (t.i+t.k) (t.j+t.k) t u) H'):oB (oX s ans i j t u4) H K:=by
 refine kch (oB_nf oR) ?_
 unfold gap at k
 by_cases q1:i<t.i
 ·by_cases q2:j<t.j
  ·rw[bo q1,bo q2,<-bn]at k
   rw[ay q1,ay q2]
   exact rwL t_rep (b3 (b3 (aBm (oR_k .rep h hl k))))
  ·rw[bo q1,bc q2,<-bn]at k
   rw[ay q1,cc q2]
   exact rwL t_del (b3 (bT (b3 (aBm (oR_k .del h hl k)))))
 ·by_cases q2:j<t.j
  ·rw[bc q1,bo q2,<-bn]at k
   rw[cc q1,ay q2]
   exact rwL t_ins (bT (bT (b3 (aBm (oR_k .ins h hl k)))))
  ·rw[bc q1,bc q2,kn]at k
   rw[cc q1,cc q2]
   exact bT (bT (bT (o_tag0 (kch oR_0 (oR2_k h (tq hl (by decide)) k)))))
inductive OI(s ans:Nat)(G:MH)(all:ae Op)(rest:ae V)(lo:Lo)(H:MH):Prop
 |mk {u1 u2 u3 u4:aj V}{i j:Int}{acc:ae Op}{l:ae T3} (el:lo=oL s ans i j u1 u2 u3 u4) (er:rest=l.map T3.v) (hx:Ex G H ans) (hn:H[ans]? =aa (.list (acc.map Op.v)))
   (e:acc++ops i j l=all) (n:acc.length+2*l.length<=100000):OI s ans G all rest lo H
theorem o_step(I:OI s ans G all (v::rest) lo H)(go:GoK (OI s ans G all rest) Q K):oT v lo H λlo1 H1=>oB lo1 H1 K:=by
 cases I with
 | @mk u1 u2 u3 u4 i j acc l el er hx hn e n=>
 refine cC (List.map_eq_cons_iff.mp er.symm) λx l' e1 e2 e3=>?_
 subst e1 e2 e3 el
 rw[di]at n
 rw[fY]at e
 refine oT_i (oB_k hn (A197 n) λ{H' u} e' h'=>go.nx (.mk rfl rfl (hx.trans e') h' ?_ ?_))
 ·rw[bn,bn];exact e
 ·have g1:(gap i j x.i x.j).length<=1:=by
   unfold gap
   split<;>split<;>first |exact Nat.le_refl 1 |exact jo 1
  have g2:(if x.k=0 then [] else [(⟨.eq,x.i,x.i+x.k,x.j,x.j+x.k⟩:Op)]).length<=1:=by
   split
   ·exact jo 1
   ·exact Nat.le_refl 1
  exact rwL af (rwL af (A198 n g1 g2))
theorem aBy{r:Nat}(h:H[s]? =aa m)(h':H[r]? =aa m')(n:m≠m'):s≠r:=λz=>by
 subst z
 exact n (Option.some.inj (h.symm.trans h'))
theorem Ex.li(e:Ex H H' s)(h:H[s]? =aa (.inst fs))(q:LI H r l):LI H' r l:=by
 refine xEA (aq.mp q) λi hi q=>xEA (aq.mp q) λm hm q=>aq.mpr ⟨i,hi,aq.mpr ⟨m,e _ _ (aBy h hm λz=>?_) hm,q⟩⟩
 subst z
 exact aF q
theorem SM.ex{rd:Nat}(S:SM H s ra rb rd rj n fs f a b)(e:Ex H H' s)(o:H'[s]? =aa (.inst fs'))(ea:fs' "a" =fs "a")(eb:fs' "b" =fs "b")(ed:fs' "b2j" =fs "b2j")(ej:fs' "bjunk" =fs "bjunk"):SM H' s ra rb rd rj n fs' f a b:=⟨o,ea.trans S.fa,eb.trans S.fb,ed.trans S.fd,ej.trans S.fj,e.li S.o S.ia,e.li S.o S.ib,e _ _ (aBy S.o S.d nofun) S.d,e _ _ (aBy S.o S.j nofun) S.j,λv=>(S.bj v).imp_right fun⟨r,js,h1,h2,h3⟩=>⟨r,js,h1,e.li S.o h2,h3⟩,S.al,S.bl⟩
def oN(s i j ans:aj V):Nv:=[("self",s),("i",i),("j",j),("answer",ans),("ai",none),("bj",none),("size",none),("tag",none)]
theorem oN_0:loB ["self"] [.ref s] lo0=look (oN (aa (.ref s)) none none none):=by
 refine rwR (fU (oN none none none none) ⋯) ?_
 show upd _ "self" (.ref s)=_
 rw[aD];kernel_rfl
def oR5:SF:=aB (iS X) (sK .next)
def oR4:SF:=aB (iT X) (oR5 X)
def oRA(R:SF):SF:=aB (iV X) (aB (iU X) R)
theorem xC:bL X [.ref s] H Q=(1=1/\At s "opcodes" H λv=>Lp (oIs not v .none H) λv H1=>Lf (tr v H1) λb=>bif b then At s "opcodes" H1 λv=>Q v H1 else oRA X (oR4 X) (loB ["self"] [.ref s] lo0) H1 (mW Q)):=by rfl'
theorem o_23(R:SF):oRA X R (look (oN (aa (.ref s)) none none none)) H K=(St s "opcodes" (.ref H.length) (H++[.list []]) λH2=>R (upd (upd (upd (look (oN (aa (.ref s)) none none none)) "i" (.int 0)) "j" (.int 0)) "answer" (.ref H.length)) H2 K):=by rfl'
theorem o_4:oR4 X (oL s ans 0 0 none none none none) H K=((∃ ff,H[s]? =aa (.inst ff))/\bF X [.ref s] H λv H2=>Lf v.rf λi=>(∃ vs,lst H2 (.ref i)=aa vs)/\∃ n,cU (bZ C) oT oB n (i,0) (oL s ans 0 0 none none none none) H2 (bN (oR5 X) K)):=by rfl'
theorem o_5:oR5 X (oL s ans i j u1 u2 u3 u4) H (mW Q)=Q (.ref ans) H:=by rfl'
def fsO(fs:Str->aj V)(ans r:Nat):Str->aj V:=fput (fput fs "opcodes" (.ref ans)) "matching_blocks" (.ref r)
theorem w9:∀ (l:ae T3) (i j:Int),(ops i j l).length<=2*l.length
 | [],_,_=>Nat.le_refl _
 |t::l,i,j=>by
  have ih:=w9 l (t.i+t.k) (t.j+t.k)
  have g1:(gap i j t.i t.j).length<=1:=by
   unfold gap
   split<;>split<;>first |exact Nat.le_refl 1 |exact jo 1
  have g2:(if t.k=0 then [] else [Op.mk .eq t.i (t.i+t.k) t.j (t.j+t.k)]).length<=1:=by
   split
   ·exact jo 1
   ·exact Nat.le_refl 1
  rw[fY,af,af,di]
  exact A199 ih g1 g2
theorem go_ok{rd:Nat}(S:SM H s ra rb rd rj n fs f a b)(hm:fs "matching_blocks" =aa .none)(ho:fs "opcodes" =aa .none)(al:a.length<200)(ok:∀ r,Run a b [⟨0,a.length,0,b.length⟩] [] r->okSort (r.map T3.v))(len:∀ bl,Blocks a b bl->bl.length<=1000)(k:∀ {H' r bl},Ex H H' s->H.length≠s->H'[s]? =aa (.inst (fsO fs H.length r))->H'[H.length]? =aa (.list ((ops 0 0 bl).map Op.v))->Blocks a b bl->Q (.ref H.length) H'):bL X [.ref s] H Q:=by
 refine kch (xC X) ⟨rfl,At.mk S.o ho (Lp.mk (v:=.bool am) (H:=H) rfl (Lf.mk (p:=am) rfl (bT (rwL oN_0 ?_))))⟩
 have x1:=Hx.app H [MO.list []]
 have ns:H.length≠s:=cG S.o
 refine kch (o_23 X (oR4 X)) (St.mk (x1 _ _ S.o) ?_)
 rw[aD,aD,aD]
 have s2:=aK (x1 _ _ S.o) (.inst (fput fs "opcodes" (.ref H.length)))
 have a2:((H++[MO.list []]).set s (.inst (fput fs "opcodes" (.ref H.length))))[H.length]? =aa (.list []):=aE (aV _ _) ns.symm
 have e2:Ex H ((H++[MO.list []]).set s (.inst (fput fs "opcodes" (.ref H.length)))) s:=λj m n e=>aE (x1 _ _ e) n
 have S2:=S.ex e2 s2 ⋯ ⋯ ⋯ ⋯
 refine kch (o_4 X) ⟨⟨_,s2⟩,gmb_ok X S2 (kch (B:=fs "matching_blocks" =aa .none) ⋯ hm) al ok λ{H3 r bl} e3 hr rs s3 h3 B=>Lf.mk (p:=r) rfl ⟨⟨_,aR h3⟩,_,jF (OI s H.length H3 (ops 0 0 bl)) (λI=>?_) (λI=>?_) (λI go=>o_step I go) (bl.map T3.v) 0 rfl
  (.mk (acc:=[]) rfl rfl (λc c c e=>e) (e3 _ _ ns.symm a2) rfl (by have:=len bl B;exact rwL og (A200 this)))⟩⟩
 ·cases I with
  |mk el er hx=>exact aR (hx _ _ (λz=>by rw[<-z,a2]at hr;exact cyM hr) h3)
 ·cases I with
  | @mk u1 u2 u3 u4 i j acc l el er hx hn e n=>
  subst el
  cases pj.mp er.symm
  rw[qE,cw]at e
  subst e
  exact kch (o_5 X) (k (λj m q h=>hx _ _ (λz=>by rw[<-z,aM]at h;exact aF h) (e3 _ _ q (e2 _ _ q h))) ns (hx _ _ ns s3) hn B)
theorem Run.okSort(h:Run a b [⟨0,a.length,0,b.length⟩] [] r)(rl:r.length<64):okSort (r.map T3.v):=⟨λv hv=>(xEA (nu.mp hv) λt q e=>e▸rfl),List.pairwise_map.mpr h.sorted.1,by rw[ar];exact rl⟩
theorem Blocks.len(h:Blocks a b l)(al:a.length<200):l.length<=1000:=by
 refine xEA h λr h1 h2=>?_
 have:=nC (isort T3.i r) ⟨0,0,0⟩
 rw[(bW T3.i r).length_eq]at this
 have:=h1.len
 refine rwL h2 (rwL af (rwL az ?_))
 omega
def Ops(a b:ae Int)(l:ae Op):Prop:=∃ bl,Blocks a b bl/\l=ops 0 0 bl
theorem Ops.uniq(h:Ops a b l)(h':Ops a b l'):l=l':=by
 exact xEA h λr h1 h2=>xEA h' λr' h3 h4=>rwL h2 (rwL h4 (rwL (h1.uniq h3) rfl))
theorem Ops.cod(h:Ops a b l):Cod a b none 0 0 l:=by
 refine xEA h λbl z184 z185=>?_;clear h;obtain⟨r,h1,rfl⟩:=z184;subst z185
 exact(nad_0 h1.sorted.2).cod (ee _) (ee _)
theorem oF{rd:Nat}(S:SM H s ra rb rd rj n fs f a b)(hm:fs "matching_blocks" =aa .none)(ho:fs "opcodes" =aa .none)(al:a.length<200)(rl:∀ r,Run a b [⟨0,a.length,0,b.length⟩] [] r->r.length<64)(k:∀ {H' r l},Ex H H' s->H.length≠s->H'[s]? =aa (.inst (fsO fs H.length r))->H'[H.length]? =aa (.list (l.map Op.v))->Ops a b l->Q (.ref H.length) H'):bL X [.ref s] H Q:=go_ok X S hm ho al (λr h=>h.okSort (rl r h)) (λbl h=>h.len al) λe1 e2 e3 e4 B=>k e1 e2 e3 e4 ⟨_,B,rfl⟩
def Tg.isEq:Tg->fq | .eq=>ak |_=>am
def Op.hd(o:Op)(n:Int):Op:=⟨o.tag,o.i1,min o.i2 (o.i1+n),o.j1,min o.j2 (o.j1+n)⟩
def Op.tl(o:Op)(n:Int):Op:=⟨o.tag,max o.i1 (o.i2-n),o.i2,max o.j1 (o.j2-n),o.j2⟩
def gN(n:Int)(o:Op):fq:=o.tag.isEq && decide (o.i2-o.i1>n+n)
def k9(cur:ae Op):fq:=match cur with | []=>am | [o]=> !o.tag.isEq |_=>ak
def grps(n:Int)(cur:ae Op):ae Op->ae (ae Op)
 | []=>bif k9 cur then [cur] else []
 |o::l=>bif gN n o then(cur++[o.hd n])::grps n [o.tl n] l else grps n (cur++[o]) l
theorem v4(n:Int)(cur:ae Op):grps n cur []=bif k9 cur then [cur] else []:=rfl
theorem oU(n:Int)(cur:ae Op)(o:Op)(l:ae Op):grps n cur (o::l)=bif gN n o then(cur++[o.hd n])::grps n [o.tl n] l else grps n (cur++[o]) l:=rfl
def kC(n:Int):ae Op->ae Op
 | []=>[]
 |o::l=>(bif o.tag.isEq then o.tl n else o)::l
def jG(n:Int):ae Op->ae Op
 | []=>[]
 | [o]=>[bif o.tag.isEq then o.hd n else o]
 |o::l=>o::jG n l
def iI:ae Op->ae Op
 | []=>[⟨.eq,0,1,0,1⟩]
 |l=>l
def groups(n:Int)(l:ae Op):ae (ae Op):=grps n [] (jG n (kC n (iI l)))
def kL(s:Nat)(n:Int)(cd:Nat)(gr:Nat)(u1 u2 u3 u4 u5:aj V):Lo:=look [("self",aa (.ref s)),("n",aa (.int n)),("codes",aa (.ref cd)),("nn",aa (.int (n+n))),("group",aa (.ref gr)),("tag",u1),("i1",u2),("i2",u3),("j1",u4),("j2",u5)]
def kX(s:Nat)(n:Int)(cd gr:Nat)(o:Op):Lo:=kL s n cd gr (aa (.str o.tag.s)) (aa (.int o.i1)) (aa (.int o.i2)) (aa (.int o.j1)) (aa (.int o.j2))
theorem gtgt_i(q:R (kX s n cd gr o) H):aDc X o.v (kL s n cd gr u1 u2 u3 u4 u5) H R:=by
 refine kch (B:=(5=5/\R (upd (upd (upd (upd (upd (kL s n cd gr u1 u2 u3 u4 u5) "tag" (.str o.tag.s)) "i1" (.int o.i1)) "i2" (.int o.i2)) "j1" (.int o.j1)) "j2" (.int o.j2)) H)) ⋯ ⟨rfl,?_⟩
 unfold kL
 rw[aD,aD,aD,aD,aD]
 exact q
theorem nN(H:MH)(g:Tg):eqv H (.str g.s) (.str "equal")=aa g.isEq:=by cases g<;>kernel_rfl
theorem gfc_i(q:P (gN n o) H):g_fc X (kX s n cd gr o) H P:=by
 refine kch (B:=(Lp (bG id (.str o.tag.s) (.str "equal") H) λv H1=>Lf (tr v H1) λt=>bif t then(bif decide (o.i2-o.i1>n+n) then P ak H1 else P am H1) else P am H1)) ⋯
  (Lp.mk (v:=.bool o.tag.isEq) (H:=H) (by unfold bG;rw[nN];rfl) (Lf.mk (p:=o.tag.isEq) rfl ?_))
 unfold gN at q
 cases e:o.tag.isEq with
 |false=>rw[e]at q;exact q
 |true=>
  rw[e,Bool.true_and]at q
  cases e2:decide (o.i2-o.i1>n+n) with
  |false=>rw[e2]at q;exact q
  |true=>rw[e2]at q;exact q
theorem gf1_i(h:H[gr]? =aa (.list vs))(hl:vs.length<1000000)(k:K .next (kX s n cd gr o) (H.set gr (.list (vs++[(o.hd n).v])))):g_f1 X (kX s n cd gr o) H K:=i8 (v:=(o.hd n).v) (K:=K) ⋯ (λH Q q=>kch (B:=(5<100/\Q (o.hd n).v H)) ⋯ ⟨by decide,q⟩) h hl k
theorem gf3_i(h:H[gr]? =aa (.list vs))(hl:vs.length<1000000)(k:K .next (kX s n cd gr o) (H.set gr (.list (vs++[o.v])))):g_f3 X (kX s n cd gr o) H K:=i8 (v:=o.v) (K:=K) ⋯ (λH Q q=>kch (B:=(5<100/\Q o.v H)) ⋯ ⟨by decide,q⟩) h hl k
theorem gf2_i(k:K .next (kX s n cd H.length (o.tl n)) (H++[.list []])):g_f2 X (kX s n cd gr o) H K:=by
 refine kch (B:=(2<100/\2=2/\K .next (upd (upd (upd (kX s n cd gr o) "group" (.ref H.length)) "j1" (.int (max o.j1 (o.j2-n)))) "i1" (.int (max o.i1 (o.i2-n)))) (H++[.list []]))) ⋯ ⟨by decide,rfl,?_⟩
 unfold kX kL
 rw[aD,aD,aD]
 exact k
theorem aGx:xW X (kL s n cd gr u1 u2 u3 u4 u5) H P=(Lf (tr (.ref gr) H) λt=>bif t then Lp ((lst H (.ref gr)).bind λxs=>if xs.length<1000000 then aa (.int xs.length,H) else none) λm H1=>Lp (bG id m (.int 1) H1) λv H2=>Lf (tr v H2) λt=>bif t then (Lp (aQ (.ref gr) (.int 0) H2) λv H3=>Lp (aQ v (.int 0) H3) λv H4=>Lp (bG id v (.str "equal") H4) λv H5=>Lf (tr v H5) λt=>bif t then(bif !true then P ak H5 else P am H5) else(bif !false then P ak H5 else P am H5)) else(bif !false then P ak H2 else P am H2) else P am H):=by rfl'
theorem gfc2_i(h:H[gr]? =aa (.list (cur.map Op.v)))(hl:cur.length<1000000)(q:P (k9 cur) H):xW X (kL s n cd gr u1 u2 u3 u4 u5) H P:=by
 have hl':(cur.map Op.v).length<1000000:=by rw[ar];exact hl
 refine kch (aGx X) (Lf.mk (q4 h hl') ?_)
 have len:((lst H (.ref gr)).bind λxs=>if xs.length<1000000 then aa (V.int xs.length,H) else none)=aa (.int (cur.map Op.v).length,H):=rwL (aR h) (bo hl')
 match cur,h,len,q with
 | [],h,len,q=>exact q
 | [o],h,len,q=>
  refine b3 (Lp.mk len (Lp.mk (v:=.bool ak) (H:=H) ⋯ (Lf.mk (p:=ak) rfl (b3 (Lp.mk (v:=o.v) (H:=H) ?_ (Lp.mk (v:=.str o.tag.s) (H:=H) rfl (Lp.mk (v:=.bool o.tag.isEq) (H:=H) ?_ (Lf.mk (p:=o.tag.isEq) rfl ?_))))))))
  ·show((lst H (.ref gr)).bind (at_ 0)).map _=_
   refine rwL (aR h) ?_;rfl
  ·unfold bG;rw[nN];rfl
  ·have q:P (!o.tag.isEq) H:=q
   cases e:o.tag.isEq with
   |false=>rw[e]at q;exact q
   |true=>rw[e]at q;exact q
 |o::o2::l,h,len,q=>
  refine b3 (Lp.mk len (Lp.mk (v:=.bool am) (H:=H) ?_ (Lf.mk (p:=am) rfl (bT (b3 q)))))
  have e:(((o::o2::l).map Op.v).length:Int)≠1:=by rw[ar,di,di];exact A204
  unfold bG
  rw[aG8,cc e];rfl
def Ex2(H H':MH)(i i':Nat):Prop:=∀ (j:Nat) (m:MO),i≠j->i'≠j->H[j]? =aa m->H'[j]? =aa m
theorem Ex2.trans{H1:MH}(h:Ex2 H H1 i i')(h':Ex2 H1 H2 i i'):Ex2 H H2 i i':=λj m n n' e=>h' j m n n' (h j m n n' e)
theorem Ex2.set:Ex2 H ((H.set i m).set i' m') i i':=λj x n n' e=>aE (aE e n) n'
theorem Ex2.set1:Ex2 H (H.set i m) i i':=λj x n n' e=>aE e n
theorem iv_of{i:Nat}(h:H[i]? =aa (.itr (aa p))):H[i]?.bind MO.iv=aa p:=by refine rwL h ?_;rfl
structure OutK(s:Nat)(n:Int)(cd it gr:Nat)(all:ae Op)(p0:Nat)(H:MH)(gs:ae (ae Op))(Q:lJ->MH->Prop):Prop where
 yl:∀ {H' o p g},Ex2 H H' it gr->H'[it]? =aa (.itr (aa (cd,p)))->H'[gr]? =aa (.list (g.map Op.v))->gs=g::grps n [o.tl n] (all.drop p)->p0<p->p<=all.length->Q (.yl it (kX s n cd gr o) (.ref gr)) H'
 yr:∀ {H' lo g},Ex2 H H' it gr->H'[gr]? =aa (.list (g.map Op.v))->gs= [g]->(∃ m,H'[it]? =aa m)->Q (.yr lo (.ref gr)) H'
 dn:∀ {H'},Ex2 H H' it gr->gs= []->Q .done H'
theorem rN(X:XX C){p0:Nat}(ci:it≠cd)(gi:it≠gr)(cg:gr≠cd):∀ (rest:ae Op){cur:ae Op}{p:Nat}{H:MH}{u1 u2 u3 u4 u5:aj V}, p0<=p->all.drop p=rest->H[cd]? =aa (.list (all.map Op.v))->H[it]? =aa (.itr (aa (cd,p)))->H[gr]? =aa (.list (cur.map Op.v))->cur.length+rest.length<=1000->OutK s n cd it gr all p0 H (grps n cur rest) Q-> (gfn X).loopN (rest.length+1) it (kL s n cd gr u1 u2 u3 u4 u5) H Q
 | [],cur,p,H,u1,u2,u3,u4,u5,h0,hd,hc,hi,hg,hl,K=>by
  refine Lf.mk (iv_of hi) (Lf.mk (aR hc) ?_)
  show(match (all.map Op.v)[p]? with |some v=>_ |none=>(gfn X).tail _ (H.set it (.itr none)) Q)
  refine rwL (ji (by rw[ar];exact List.drop_eq_nil_iff.mp hd)) ?_
  have hg':=aE (m':=.itr none) hg gi
  refine gfc2_i X hg' (by rw[og]at hl;exact A205 hl) ?_
  cases e:k9 cur with
  |false=>exact bT (K.dn .set1 (by rw[v4,e];rfl))
  |true=>exact b3 (kch (B:=Q (.yr (kL s n cd gr u1 u2 u3 u4 u5) (.ref gr)) (H.set it (.itr none))) ⋯ (K.yr .set1 hg' (by rw[v4,e];rfl) ⟨_,aK hi _⟩))
 |o::rest,cur,p,H,u1,u2,u3,u4,u5,h0,hd,hc,hi,hg,hl,K=>by
  have hp:all[p]? =aa o:=by refine rwR yh (rwL hd ?_);rfl
  have hpl:p+1<=all.length:=(List.getElem?_eq_some_iff.mp hp).1
  have hd':all.drop (p+1)=rest:=by refine rwR List.drop_drop (rwL hd ?_);rfl
  rw[di]at hl
  have cl:(cur.map Op.v).length<1000000:=by rw[ar];exact A191 hl
  refine Lf.mk (iv_of hi) (Lf.mk (aR hc) ?_)
  show(match (all.map Op.v)[p]? with |some v=>_ |none=>_)
  refine rwL jm (rwL hp ?_)
  have hg':=aE (m':=.itr (aa (cd,p+1))) hg gi
  have hi':=aK hi (.itr (aa (cd,p+1)))
  refine gtgt_i X (gfc_i X ?_)
  cases e:gN n o with
  |true=>
   refine b3 (gf1_i X hg' cl (kch (B:=Q (.yl it (kX s n cd gr o) (.ref gr)) ((H.set it (.itr (aa (cd,p+1)))).set gr (.list (cur.map Op.v++[(o.hd n).v])))) ⋯ (K.yl (g:=cur++[o.hd n]) .set (aE hi' gi.symm) (rwL au (aK hg' _)) ?_ (Nat.lt_succ_of_le h0) hpl)))
   ·rw[oU,e,hd'];rfl
  |false=>
   refine bT (gf3_i X hg' cl (rN X ci gi cg rest (cur:=cur++[o]) (p:=p+1) (Nat.le_succ_of_le h0) hd' (aE (aE hc ci) cg) (aE hi' gi.symm) (rwL au (aK hg' _)) (rwL af (rwL az (A192 hl))) ?_))
   ·have eg:grps n (cur++[o]) rest=grps n cur (o::rest):=by rw[oU,e];rfl
    exact rwL eg ⟨λe1=>K.yl (Ex2.set.trans e1),λe1=>K.yr (Ex2.set.trans e1),λe1=>K.dn (Ex2.set.trans e1)⟩
theorem xS{i:Nat}(h:H[i]? =aa (.gen g)):H[i]?.bind MO.gn=aa g:=by refine rwL h ?_;rfl
def Hp(B:Nat->aj MO)(H:MH):Prop:=∀ (i:Nat) (m:MO),B i=aa m->H[i]? =aa m
theorem Hp.hx{H1:MH}(h:Hp B H)(x:Hx H H1):Hp B H1:=λi m e=>x _ _ (h i m e)
theorem Hp.set(h:Hp B H)(n:B i=none):Hp B (H.set i m):=λj x e=>aE (h j x e) λq=>aF (n.symm.trans (q▸e))
theorem Hp.fresh(h:Hp B H):B H.length=none:=by
 cases e:B H.length with
 |none=>rfl
 |some m=>exact aF ((aM H).symm.trans (h _ _ e))
theorem Ex2.hx(h:Ex2 H H' i i')(x:Hp G H)(hi:G i=none)(hi':G i'=none):Hp G H':=λj m e=>
 h j m (λz=>by rw[z,e]at hi;exact cyM hi) (λz=>by rw[z,e]at hi';exact cyM hi') (x j m e)
def kP(s:Nat)(n:Int)(cd nn gr u1 u2 u3 u4 u5:aj V):Lo:=look [("self",aa (.ref s)),("n",aa (.int n)),("codes",cd),("nn",nn),("group",gr),("tag",u1),("i1",u2),("i2",u3),("j1",u4),("j2",u5)]
theorem kP_0:loB ["self","n"] [.ref s,.int n] lo0=kP s n none none none none none none none none:=by
 refine rwR (fU [("self",none),("n",none),("codes",none),("nn",none),("group",none),("tag",none),("i1",none),("i2",none),("j1",none),("j2",none)] ⋯) ?_
 show upd (upd (look _) "self" (.ref s)) "n" (.int n)=_
 rw[aD,aD];kernel_rfl
def pT:AF:=cZ 5 (asC (aN "tag") (asC (aN "i1") (asC (aN "i2") (asC (aN "j1") (asC (aN "j2") asN)))))
theorem gp_1(R:SF):aB (xV X) (aB (xU X) R) (kP s n none none none u1 u2 u3 u4 u5) H K=((∃ ff,H[s]? =aa (.inst ff))/\bL X [.ref s] H λv H1=>R (upd (kP s n none none none u1 u2 u3 u4 u5) "codes" v) H1 K):=by rfl'
theorem gp_2(R:SF):aB (nM X) R (kP s n (aa (.ref cd)) none none u1 u2 u3 u4 u5) H K=(Lf (tr (.ref cd) H) λt=>bif !t then(5<100/\R (upd (kP s n (aa (.ref cd)) none none u1 u2 u3 u4 u5) "codes" (.ref H.length)) (H++[.list [Op.v ⟨.eq,0,1,0,1⟩]]) K) else R (kP s n (aa (.ref cd)) none none u1 u2 u3 u4 u5) H K):=by rfl'
def pA(R:SF):SF:=aB (cE (bE (esC (eN "tag") (esC (aL wK (esC (eN "i1") (esC (aA cP (eN "i2") (eN "n")) esN))) (esC (eN "i2") (esC (aL wK (esC (eN "j1") (esC (aA cP (eN "j2") (eN "n")) esN))) (esC (eN "j2") esN)))))) (l8 (eN "codes") (eK (.int 0)))) R
def pZ(R:SF):SF:=aB (cE (bE (esC (eN "tag") (esC (eN "i1") (esC (aL m6 (esC (eN "i2") (esC (aA aH (eN "i1") (eN "n")) esN))) (esC (eN "j1") (esC (aL m6 (esC (eN "j2") (esC (aA aH (eN "j1") (eN "n")) esN))) esN)))))) (l8 (eN "codes") (dM (eK (.int 1))))) R
theorem gp_3(R:SF):aB (nK X) R (kP s n (aa (.ref cd)) none none u1 u2 u3 u4 u5) H K=(Lp (aQ (.ref cd) (.int 0) H) λv H1=>Lp (aQ v (.int 0) H1) λw H2=>Lp (bG id w (.str "equal") H2) λe H3=>Lf (tr e H3) λt=> bif t then(Lp (aQ (.ref cd) (.int 0) H3) λv H4=>pT v (kP s n (aa (.ref cd)) none none u1 u2 u3 u4 u5) H4 λlo1 H5=>pA (sK .next) lo1 H5 (bN R K)) else R (kP s n (aa (.ref cd)) none none u1 u2 u3 u4 u5) H3 K):=by rfl'
theorem gp_4(R:SF):aB (nH X) R (kP s n (aa (.ref cd)) none none u1 u2 u3 u4 u5) H K=(Lp (aQ (.ref cd) (.int (-1)) H) λv H1=>Lp (aQ v (.int 0) H1) λw H2=>Lp (bG id w (.str "equal") H2) λe H3=>Lf (tr e H3) λt=> bif t then(Lp (aQ (.ref cd) (.int (-1)) H3) λv H4=>pT v (kP s n (aa (.ref cd)) none none u1 u2 u3 u4 u5) H4 λlo1 H5=>pZ (sK .next) lo1 H5 (bN R K)) else R (kP s n (aa (.ref cd)) none none u1 u2 u3 u4 u5) H3 K):=by rfl'
def kPX(s:Nat)(n:Int)(cd:Nat)(o:Op):Lo:=kP s n (aa (.ref cd)) none none (aa (.str o.tag.s)) (aa (.int o.i1)) (aa (.int o.i2)) (aa (.int o.j1)) (aa (.int o.j2))
theorem pT_i(q:R (kPX s n cd o) H):pT o.v (kP s n (aa (.ref cd)) none none u1 u2 u3 u4 u5) H R:=by
 refine kch (B:=(5=5/\R (upd (upd (upd (upd (upd (kP s n (aa (.ref cd)) none none u1 u2 u3 u4 u5) "tag" (.str o.tag.s)) "i1" (.int o.i1)) "i2" (.int o.i2)) "j1" (.int o.j1)) "j2" (.int o.j2)) H)) ⋯ ⟨rfl,?_⟩
 unfold kP
 rw[aD,aD,aD,aD,aD]
 exact q
theorem pA_nf(R:SF):pA R (kPX s n cd o) H K=(5<100/\Lf (zE (.ref cd) (.int 0) (o.tl n).v H) λH'=>R (kPX s n cd o) H' K):=by rfl'
theorem pZ_nf(R:SF):pZ R (kPX s n cd o) H K=(5<100/\Lf (zE (.ref cd) (.int (-1)) (o.hd n).v H) λH'=>R (kPX s n cd o) H' K):=by rfl'
theorem gp_56:aB (rY X) (aB (rX X) (sK .next)) (kP s n (aa (.ref cd)) none none u1 u2 u3 u4 u5) H K=K .next (upd (upd (kP s n (aa (.ref cd)) none none u1 u2 u3 u4 u5) "nn" (.int (n+n))) "group" (.ref H.length)) (H++[.list []]):=by rfl'
theorem gp_56n:upd (upd (kP s n (aa (.ref cd)) none none u1 u2 u3 u4 u5) "nn" (.int (n+n))) "group" (.ref gr)=kL s n cd gr u1 u2 u3 u4 u5:=by
 unfold kP kL
 rw[aD,aD];kernel_rfl
theorem tN(n:Nat):jt (-1) (n+1)=aa n:=by
 unfold jt
 rw[bo (by decide:(-1:Int)<0)]
 have e: -1+((n+1:Nat):Int)=n:=A211
 exact rwL e (bo (by refine rwL (ay (ee n)) (rwL (ay (A212:(n:Int)<((n+1:Nat):Int))) ?_);rfl))
theorem mB(n:Nat):jt 0 (n+1)=aa 0:=cI (dj 0) A213
theorem eZ(h:H[cd]? =aa (.list vs))(b: -1000000<i/\i<1000000)(e:jt i vs.length=aa j)(hv:vs[j]? =aa v):aQ (.ref cd) (.int i) H=aa (v,H):=by
 show((lst H (.ref cd)).bind (at_ i)).map _=_
 refine rwL (aR h) ?_
 show(at_ i vs).map _=_
 unfold at_
 refine rwL (bo b) (rwL e ?_)
 show(vs[j]?).map _=_
 refine rwL hv ?_;rfl
theorem rA(h:H[cd]? =aa (.list vs))(b: -1000000<i/\i<1000000)(e:jt i vs.length=aa j):zE (.ref cd) (.int i) v H=aa (H.set cd (.list (vs.set j v))):=by
 show H[cd]?.bind (setO H cd i v)=_
 refine rwL h ?_
 show(if-1000000<i/\i<1000000 then(jt i vs.length).map λj=>H.set cd (.list (vs.set j v)) else none)=_
 refine rwL (bo b) (rwL e ?_);rfl
theorem vH{o:Op}(q:Q (.str o.tag.s) H):Lp (aQ o.v (.int 0) H) Q:=Lp.mk (v:=.str o.tag.s) (H:=H) rfl q
theorem xP{g:Tg}{Q:fq->MH->Prop}(q:Q g.isEq H):Lp (bG id (.str g.s) (.str "equal") H) λe H3=>Lf (tr e H3) λt=>Q t H3:=Lp.mk (v:=.bool g.isEq) (H:=H) (by unfold bG;rw[nN];rfl) (Lf.mk (p:=g.isEq) rfl q)
theorem qN(l:ae Op):kC n (o::l)=(bif o.tag.isEq then o.tl n else o)::l:=rfl
theorem gp3_i(h:H[cd]? =aa (.list ((o::l).map Op.v)))(k:∀ {H' u1 u2 u3 u4 u5},Ex H H' cd->H'[cd]? =aa (.list ((kC n (o::l)).map Op.v))->R (kP s n (aa (.ref cd)) none none u1 u2 u3 u4 u5) H' K):aB (nK X) R (kP s n (aa (.ref cd)) none none u1 u2 u3 u4 u5) H K:=by
 have b0: -1000000<(0:Int)/\(0:Int)<1000000:=by decide
 have ix:=mB (l.map Op.v).length
 have e1:=eZ h b0 ix (v:=o.v) rfl
 refine kch (gp_3 X R) (Lp.mk e1 (vH (xP (Q:=λt H3=>bif t then _ else _) ?_)))
 rw[qN]at k
 cases e:o.tag.isEq with
 |false=>rw[e]at k;exact bT (k (λa a a q=>q) h)
 |true=>
  rw[e]at k
  exact b3 (Lp.mk e1 (pT_i (kch (pA_nf (sK .next)) ⟨by decide,Lf.mk (rA h b0 ix) (k .set (aK h _))⟩)))
theorem hJ:∀ l:ae Op,jG n (l++[o])=l++[bif o.tag.isEq then o.hd n else o]
 | []=>rfl
 | [x]=>rfl
 |x::y::l=>by
  refine(?_:x::jG n (y::l++[o])=_)
  refine rwL (hJ (y::l)) ?_;rfl
theorem gp4_i(h:H[cd]? =aa (.list ((l++[o]).map Op.v)))(k:∀ {H' u1 u2 u3 u4 u5},Ex H H' cd->H'[cd]? =aa (.list ((jG n (l++[o])).map Op.v))->R (kP s n (aa (.ref cd)) none none u1 u2 u3 u4 u5) H' K):aB (nH X) R (kP s n (aa (.ref cd)) none none u1 u2 u3 u4 u5) H K:=by
 have b0: -1000000<(-1:Int)/\(-1:Int)<1000000:=by decide
 rw[au]at h
 have ix:jt (-1) (l.map Op.v++[o].map Op.v).length=aa (l.map Op.v).length:=rwL af (tN _)
 have e1:=eZ h b0 ix (v:=o.v) (by rw[dh (Nat.le_refl _),mz];rfl)
 refine kch (gp_4 X R) (Lp.mk e1 (vH (xP (Q:=λt H3=>bif t then _ else _) ?_)))
 rw[hJ]at k
 cases e:o.tag.isEq with
 |false=>rw[e,au]at k;exact bT (k (λa a a q=>q) h)
 |true=>
  rw[e,au]at k
  refine b3 (Lp.mk e1 (pT_i (kch (pZ_nf (sK .next)) ⟨by decide,Lf.mk (rA h b0 ix) (k .set ?_)⟩)))
  have:=aK h (.list ((l.map Op.v++[o].map Op.v).set (l.map Op.v).length (o.hd n).v))
  rw[List.set_append_right _ _ (Nat.le_refl _),mz]at this ⊢
  exact this
theorem gp2_i(h:H[cd]? =aa (.list (l.map Op.v)))(hl:l.length<1000000)(k:∀ {H' cd'},Hx H H'->H'[cd']? =aa (.list ((iI l).map Op.v))->(l≠ []/\cd'=cd)\/(l= []/\cd'=H.length)->R (kP s n (aa (.ref cd')) none none u1 u2 u3 u4 u5) H' K):aB (nM X) R (kP s n (aa (.ref cd)) none none u1 u2 u3 u4 u5) H K:=by
 refine kch (gp_2 X R) (Lf.mk (q4 h (by rw[ar];exact hl)) ?_)
 cases l with
 |nil=>
  refine b3 ⟨by decide,?_⟩
  unfold kP at k ⊢
  rw[aD]
  exact k (.app _ _) (aV _ _) (.inr ⟨rfl,rfl⟩)
 |cons o l=>exact bT (k (.refl _) h (.inl ⟨nofun,rfl⟩))
def gR3:SF:=aB (nK X) (aB (nH X) (aB (rY X) (aB (rX X) (sK .next))))
theorem mL(l:ae Op):∃ o l',iI l=o::l':=by
 cases l with
 |nil=>exact⟨_,_,rfl⟩
 |cons o l=>exact⟨o,l,rfl⟩
theorem wF(l:ae Op):(iI l).length<=l.length+1:=by
 cases l with
 |nil=>exact Nat.le_refl 1
 |cons o l=>exact ym _
theorem aDj(n:Int)(l:ae Op):∃ L o,kC n (iI l)=L++[o]:=by
 refine xEE (mL l) λo l' e=>?_
 rw[e,qN]
 rcases kx ((bif o.tag.isEq then o.tl n else o)::l') with h |⟨L,x,h⟩
 ·cases h
 ·exact⟨L,x,by exact rwL h (rwL jj rfl)⟩
theorem gp34_i(h:H[cd]? =aa (.list ((iI l).map Op.v)))(k:∀ {H' u1 u2 u3 u4 u5},Ex H H' cd->H'[cd]? =aa (.list ((jG n (kC n (iI l))).map Op.v))->K .next (kL s n cd H'.length u1 u2 u3 u4 u5) (H'++[.list []])):gR3 X (kP s n (aa (.ref cd)) none none u1 u2 u3 u4 u5) H K:=by
 refine xEE (mL l) λo l' e=>xEE (aDj n l) λL x e2=>?_
 rw[e]at h
 refine gp3_i X h λ{H1 u1 u2 u3 u4 u5} x1 h1=>?_
 rw[<-e,e2]at h1
 refine gp4_i X h1 λ{H2 u1 u2 u3 u4 u5} x2 h2=>kch (gp_56 X) (rwL gp_56n ?_)
 rw[<-e2]at h2
 exact k (x1.trans x2) h2
theorem Ops.len_r(h:Ops a b l)(rl:∀ r,Run a b [⟨0,a.length,0,b.length⟩] [] r->r.length<64):l.length<=200:=by
 refine xEA h λbl z196 h3=>xEA z196 λr h1 h2=>?_
 have e1:=nC (isort T3.i r) ⟨0,0,0⟩
 rw[(bW T3.i r).length_eq]at e1
 have e3:=w9 bl 0 0
 rw[h2,af,az,<-h2]at e3
 exact rwL h3 (A309 (rl r h1) e1 (Nat.le_refl _) e3)
theorem o9(n:Int)(l:ae Op):(kC n l).length=l.length:=by cases l<;>rfl
theorem oY(n:Int):∀ l:ae Op,(jG n l).length=l.length
 | []=>rfl
 | [x]=>rfl
 |x::y::l=>by
  show(x::jG n (y::l)).length=_
  refine rwL di (rwL (oY n (y::l)) ?_);rfl
def cQ(n:Int):ae Op->ae Op
 | []=>[]
 |o::l=>jG n (kC n (o::l))
theorem o0(n:Int):∀ l:ae Op,(cQ n l).length=l.length
 | []=>rfl
 |o::l=>by
  show(jG n (kC n (o::l))).length=_
  rw[oY,o9]
theorem Hx.no{r:Nat}(x:Hx B H)(h:H[r]? =none):B[r]? =none:=by
 cases c:B[r]? with
 |none=>rfl
 |some m=>exact aF (h.symm.trans (x _ _ c))
def eqO(i j k:Int):Op:=⟨.eq,i,i+k,j,j+k⟩
def chO(g:Tg)(i j i' j':Int):Op:=⟨g,i,i',j,j'⟩
theorem aGj{g:Tg}(h:g≠ .eq):g.isEq=am:=by
 cases g with
 |eq=>exact bw rfl h
 |_=>rfl
theorem oP(h:k9 cur=ak)(x:Op):k9 (cur++[x])=ak:=by
 cases cur with
 |nil=>cases h
 |cons z t=>cases t<;>rfl
theorem wO{o:Op}(n0:0<=n):gN n (o.hd n)=am:=by
 have: ¬(min o.i2 (o.i1+n)-o.i1>n+n):=by
  have:=Int.min_le_right o.i2 (o.i1+n)
  exact A215 n0
 show(o.tag.isEq && decide (min o.i2 (o.i1+n)-o.i1>n+n))=am
 rw[cc this,Bool.and_false]
theorem Cod.end(h:Cod a b f i j l)(e:l= []):i=a.length/\j=b.length:=by
 cases h with
 |nil=>exact⟨rfl,rfl⟩
 |eq=>cases e
 |ch=>cases e
inductive CoI(a b:ae Int)(f:aj fq)(i j:Int):Op->ae Op->Prop
 |eq {k:Int}{l:ae Op} (hf:f≠aa ak) (p:0<k) (m:Mt a b i j k) (h:Cod a b (aa ak) (i+k) (j+k) l):CoI a b f i j (eqO i j k) l
 |ch {i' j':Int}{g:Tg}{l:ae Op} (hf:f≠aa am) (hg:g.isEq=am) (hi:i<=i') (hj:j<=j') (h:Cod a b (aa am) i' j' l):CoI a b f i j (chO g i j i' j') l
theorem Cod.inv(h:Cod a b f i j (o::l)):CoI a b f i j o l:=by
 generalize e:o::l=L at h
 cases h with
 |nil=>cases e
 |eq hf p m h=>cases e;exact .eq hf p m h
 |ch hf hg hi hj lt h=>cases e;exact .ch hf (aGj hg) hi hj h
theorem big_tl{o:Op}(n0:0<=n):gN n (o.tl n)=am:=by
 have: ¬(o.i2-max o.i1 (o.i2-n)>n+n):=by
  have:=ue o.i1 (o.i2-n)
  exact A219 n0
 show(o.tag.isEq && decide (o.i2-max o.i1 (o.i2-n)>n+n))=am
 rw[cc this,Bool.and_false]
class inductive Its(K:ItK C)(B:MH):K.σ->ae V->Prop
 |nil {it:K.σ} (h:∀ {H:MH}{P:aj (V×K.σ)->MH->Prop},Hx B H->P none H->K.nx it H P):Its K B it []
 |cons {it it':K.σ}{v:V}{vs:ae V} (h:∀ {H:MH}{P:aj (V×K.σ)->MH->Prop},Hx B H->P (aa (v,it')) H->K.nx it H P) (t:Its K B it' vs):Its K B it (v::vs)
theorem jE(hl:lst B (.ref r)=aa vs):∀ (rest:ae V) (p:Nat),vs.drop p=rest->Its (bZ C) B (r,p) rest
 | [],p,hd=>.nil λ{H P} hx q=>Lf.mk (p:=none) (by
   show(lst H (.ref r)).map _=_
   rw[hx.lst hl,um,ji (List.drop_eq_nil_iff.mp hd)];rfl) q
 |v::rest,p,hd=>.cons (λ{H P} hx q=>Lf.mk (p:=aa (v,(r,p+1))) (by
   show(lst H (.ref r)).map _=_
   rw[hx.lst hl,um,show vs[p]? =aa v from by refine rwR yh (rwL hd ?_);rfl];rfl) q)
  (jE hl rest (p+1) (by refine rwR List.drop_drop (rwL hd ?_);rfl))
theorem xM:∀ (n:Nat) (x:Int),Its (hF C) B (x,n,1) (jW x 1 n)
 |0,x=>.nil λhx q=>q
 |n+1,x=>.cons (λhx q=>q) (xM n (x+1))
structure Put(I:Lo->Prop)(B:MH)(ai:Nat)(out:ae V)(F:Lo->MH->LK->Prop):Prop where
 p:∀ {lo:Lo}{H:MH}{acc:ae V}{P:LK},I lo->Hx B H->H[ai]? =aa (.list acc)->acc.length+out.length<1000000->
 (∀ {lo' H'},I lo'->Hx B H'->H'[ai]? =aa (.list (acc++out))->P lo' H')->F lo H P
def fW(tgt:AF)(t:TF)(bf:Lo->MH->LK->Prop)(v:V):Lo->MH->LK->Prop:=λlo H P=>tgt v lo H λlo1 H1=>t lo1 H1 λb H2=>bif b then bf lo1 H2 P else P lo1 H2
theorem n7{α:Type}{K:ItK C}{bf:BF}(f:α->V)(out:α->ae V)(I:Lo->Prop):∀ (l:ae α){it:K.σ},Its K B it (l.map f)->(∀ x∈l,Put I B ai (out x) (fW tgt t (bf ai) (f x)))-> ∀ {lo:Lo}{H:MH}{acc:ae V}{P:LK},I lo->Hx B H->H[ai]? =aa (.list acc)->acc.length+(l.flatMap out).length<1000000->(∀ {lo' H'},I lo'->Hx B H'->H'[ai]? =aa (.list (acc++l.flatMap out))->P lo' H')->lQ K tgt t (bf ai) (l.length+1) it lo H P
 | [],it,hi,hs,lo,H,acc,P,i,hx,ha,hl,k=>by
  cases hi with
  |nil h=>exact h hx (k i hx (by rw[List.flatMap_nil,cw];exact ha))
 |x::l,it,hi,hs,lo,H,acc,P,i,hx,ha,hl,k=>by
  cases hi with
  |cons h ht=>
   rw[qa,af]at hl
   refine h hx ((hs x be).p i hx ha (A248 hl) λ{lo' H'} i' hx' ha'=>(n7 f out I l ht (λy hy=>hs y (bq _ hy)) i' hx' ha' (rwL af (A249 hl)) λ{lo2 H2} i2 hx2 ha2=>k i2 hx2 ?_))
   rw[qa,<-bn];exact ha2
theorem aHc{α:Type}{K:ItK C}{bf:BF}{Q:EK}{it:K.σ}(f:α->V)(out:α->ae V)(I:Lo->Prop)(l:ae α)(hi:Its K H it (l.map f))(i0:I (hide hid lo))(hl:(l.flatMap out).length<1000000)(hs:∀ x∈l,Put I H H.length (out x) (fW tgt t (bf H.length) (f x)))(k:∀ {H'},Hx H H'->H'[H.length]? =aa (.list (l.flatMap out))->Q (.ref H.length) H'):∃ n,lQ K tgt t (bf H.length) n it (hide hid lo) (H++[.list []]) λq H2=>Q (.ref H.length) H2:=⟨_,n7 f out I l hi hs i0 (.app _ _) (aV _ _) (by rw[og,Nat.zero_add];exact hl) λq hx ha=>k hx ha⟩
theorem pJ{α:Type}{K:ItK C}{fi:IF K}{it:K.σ}(f:α->V)(out:α->ae V)(I:Lo->Prop)(l:ae α)(hf:∀ {P:K.σ->MH->Prop},P it H->fi lo H P)(hi:Its K H it (l.map f))(i0:I (hide hid lo))(hl:(l.flatMap out).length<1000000)(hs:∀ x∈l,Put I H H.length (out x) (fW tgt t (bf H.length) (f x)))(k:∀ {H'},Hx H H'->H'[H.length]? =aa (.list (l.flatMap out))->Q (.ref H.length) H'):fK K hid fi tgt t bf lo H Q:=hf (aHc f out I l hi i0 hl hs k)
theorem iL_i(hf:∀ {Q:EK},Q (.ref r) H->f lo H Q)(hl:lst H (.ref r)=aa vs)(q:P (r,0) H):iL f lo H P:=hf (Lf.mk (p:=r) rfl ⟨⟨_,hl⟩,q⟩)
theorem qU{α:Type}(f:α->V)(out:α->ae V)(I:Lo->Prop)(l:ae α)(hn:lo x=aa (.ref r))(h:lst H (.ref r)=aa (l.map f))(i0:I (hide hid lo))(hl:(l.flatMap out).length<1000000)(hs:∀ x∈l,Put I H H.length (out x) (fW tgt t (bf H.length) (f x)))(k:∀ {H'},Hx H H'->H'[H.length]? =aa (.list (l.flatMap out))->Q (.ref H.length) H'):fK (bZ C) hid (iL (eN x)) tgt t bf lo H Q:=pJ f out I l (iL_i (λq=>aP hn q) h) (jE h _ 0 rfl) i0 hl hs k
theorem put1{I:Lo->Prop}{P:LK}(hb:B[ai]? =none)(hx:Hx B H)(ha:H[ai]? =aa (.list acc))(hl:acc.length+out.length<1000000)(e:out= [v])(i:I lo)(k:∀ {lo' H'},I lo'->Hx B H'->H'[ai]? =aa (.list (acc++out))->P lo' H'):Lf (H[ai]?.bind MO.own) λvs=>vs.length<1000000/\P lo (H.set ai (.list (vs++[v]))):=Lf.mk (eX ha) ⟨nq (pu _ _) hl,k i (hx.set hb) (rwL e (aK ha _))⟩
theorem put0{ai:Nat}{I:Lo->Prop}{P:LK}(hx:Hx B H)(ha:H[ai]? =aa (.list acc))(e:out= [])(i:I lo)(k:∀ {lo' H'},I lo'->Hx B H'->H'[ai]? =aa (.list (acc++out))->P lo' H'):P lo H:=k i hx (by rw[e,cw];exact ha)
theorem tI(h:PyData.canLayAll0 xs=ak)(d:(PyData.list xs).depth<=64):PySem.SeqAt.shaped (.list xs)=ak:=by
 unfold PySem.SeqAt.shaped
 rw[ay d,Bool.and_true];exact h
theorem uS(h1:rd H eqD x=aa d)(h2:rd H eqD y=aa d)(s:PySem.SeqAt.shaped d=ak):eqv H x y=aa ak:=by
 unfold eqv
 refine rwL h1 (rwL h2 ?_)
 show(if (PySem.SeqAt.shaped d && PySem.SeqAt.shaped d)=ak then aa (PyData.eqv d d) else none)=aa ak
 refine rwL s (ei aa (PySem.SeqAt.eqv_refl d ?_))
 unfold PySem.SeqAt.shaped at s
 exact(dp.mp s).1
theorem rdMs{α:Type}(f:α->V)(d:α->mh):∀ l:ae α,(∀ x∈l,rd H n (f x)=aa (d x))->(l.map f).mapM (rd H n)=aa (l.map d)
 | [],_=>rfl
 |x::l,h=>by
  refine rwL fp (rwL xj (rwL (h x be) (rwL (rdMs f d l λy hy=>h y (bq _ hy)) ?_)));rfl
theorem iC{α:Type}(f:α->V)(d:α->mh){l:ae α}(hl:lst H (.ref r)=aa (l.map f))(h:∀ x∈l,rd H n (f x)=aa (d x)):rd H (n+1) (.ref r)=aa (.list (l.map d)):=by
 show(lst H (.ref r)).bind (λvs=>(vs.mapM (rd H n)).map PyData.list)=_
 refine rwL hl ?_
 show((l.map f).mapM (rd H n)).map PyData.list=_
 refine rwL (rdMs f d l h) ?_;rfl
theorem xB{α:Type}(d:α->mh):∀ l:ae α,(∀ x∈l,(d x).canLay0=ak/\(d x).depth<=m)->PyData.canLayAll0 (l.map d)=ak/\PyData.depthAll (l.map d)<=m
 | [],_=>⟨rfl,jo _⟩
 |x::l,h=>by
  have h1:=h x be
  have h2:=xB d l λy hy=>h y (bq _ hy)
  refine⟨?_,Nat.max_le.mpr ⟨h1.2,h2.2⟩⟩
  show((d x).canLay0 && PyData.canLayAll0 (l.map d))=ak
  refine rwL h1.1 (rwL h2.1 ?_);rfl
theorem lS{α:Type}{d:α->mh}{l:ae α}(h:∀ x∈l,(d x).canLay0=ak/\(d x).depth<=9):PySem.SeqAt.shaped (.list (l.map d))=ak:=tI (xB d l h).1 (Nat.succ_le_of_lt (nq (xB d l h).2 (by decide)))
theorem qQ{α:Type}(f:α->V)(d:α->mh){l:ae α}(h1:lst H (.ref r)=aa (l.map f))(h2:lst H (.ref r')=aa (l.map f))(hd:∀ x∈l,rd H 7 (f x)=aa (d x))(hs:∀ x∈l,(d x).canLay0=ak/\(d x).depth<=9):eqv H (.ref r) (.ref r')=aa ak:=uS (iC f d h1 hd) (iC f d h2 hd) (lS hs)
theorem zT{α:Type}(f:α->V)(d:α->mh){l:ae α}(h1:lst H (.ref r)=aa (l.map f))(h2:lst H (.ref r')=aa [])(hd:∀ x∈l,rd H 7 (f x)=aa (d x))(hs:∀ x∈l,(d x).canLay0=ak/\(d x).depth<=9):eqv H (.ref r) (.ref r')=aa l.isEmpty:=by
 unfold eqv
 have e1:rd H eqD (.ref r)=_:=iC (n:=7) f d h1 hd
 have e2:rd H eqD (.ref r')=_:=iC (n:=7) (l:=[]) f d h2 nofun
 refine rwL e1 (rwL e2 ?_)
 show(if (PySem.SeqAt.shaped (.list (l.map d)) && PySem.SeqAt.shaped (.list []))=ak then aa (PyData.eqv (.list (l.map d)) (.list [])) else none)=_
 refine rwL (lS hs) ?_
 show aa (PyData.eqvAll (l.map d) [])=_
 cases l<;>rfl
def dI(x:Int):mh:=.int x
theorem dI_rd(x:Int):rd H 7 (.int x)=aa (dI x):=rfl
theorem dI_ok(x:Int):(dI x).canLay0=ak/\(dI x).depth<=9:=⟨rfl,jo _⟩
def pv(p:Int×Int):V:=.tup [.int p.1,.int p.2]
def dO(o:Op):mh:=.tuple [.str o.tag.s,.int o.i1,.int o.i2,.int o.j1,.int o.j2]
theorem dO_rd(o:Op):rd H 7 o.v=aa (dO o):=rfl
theorem dO_rd6(o:Op):rd H 6 o.v=aa (dO o):=rfl
theorem aEb(o:Op):(dO o).canLay0=ak/\(dO o).depth<=9:=⟨by
 obtain⟨t,_,_,_,_⟩:=o
 cases t<;>kernel_rfl,(by decide:1<=9)⟩
theorem w7(h:lst H (.ref r)=aa vs)(h':lst H (.ref r')=aa ws)(hl:vs.length+ws.length<1000000)(q:Q (.ref H.length) (H++[.list (vs++ws)])):Lp (aH (.ref r) (.ref r') H) Q:=by
 refine Lp.mk (v:=.ref H.length) (H:=H++[.list (vs++ws)]) ?_ q
 show(lst H (.ref r)).bind (λxs=>(lst H (.ref r')).bind λys=>mkL (xs++ys) H)=_
 exact rwL h (rwL h' (bo (rwL af hl)))
theorem fX(h:H[r]? =aa (.list vs))(h':H[r']? =aa (.list ws))(hl:vs.length+ws.length<1000000)(q:Q (.ref H.length) (H++[.list (vs++ws)])):Lp (aH (.ref r) (.ref r') H) Q:=w7 (aR h) (aR h') hl q
theorem uD:∀ l:ae Int,mE (l.map V.int)=aa l
 | []=>rfl
 |x::l=>by
  have:=uD l
  unfold mE at this ⊢
  refine rwL fp (rwL xj (rwL this ?_));rfl
theorem sum_i{l:ae Int}(h:lst H (.ref r)=aa (l.map V.int))(q:Q (.int l.sum) H):cSum [.ref r] H Q:=by
 refine Lp.mk (v:=.int l.sum) (H:=H) ?_ q
 show(lst H (.ref r)).bind (λxs=>(mE xs).map λis=>(V.int is.sum,H))=_
 refine rwL h ?_
 show(mE (l.map V.int)).map _=_
 rw[uD];rfl
theorem rP(h:lst H (.ref r)=aa vs)(hl:vs.length<1000000)(q:Q (.int vs.length) H):bY [.ref r] H Q:=by
 refine Lp.mk (v:=.int vs.length) (H:=H) ?_ q
 show(lst H (.ref r)).bind _=_
 exact rwL h (bo hl)
theorem Yb0:m+(n+1)<=p+1->n<=p:=Z.R 0x106aa4007da8007da40a00007 [] [m,n,p]
theorem Yb1:m+(n+1)<=p+1->m<=p:=Z.R 0x106aa0007da8007da40a00007 [] [m,n,p]
theorem Yb2{a b d f:Int}:¬(a<b\/a=b/\(c<d\/c=d/\e<=f))->b<a\/b=a/\(d<c\/d=c/\f<=e):=Z.R 0x100004000104000000100000100104000004000004000004100000004100000004100000104000004100004004000004004000004004000104000004000004000004100000104000004100004100004100004100000104000004100004100004102cb42aab0c5a81f6b0021a8a4316807da40086a2db02aea0c5ac1f6a0021a9a0316907da00086107 [a,b,c,d,e,f] []
theorem Yb3{a b c:Int}:a<a\/a=a/\(b<b\/b=b/\c<=c):=Z.R 0x4000100004000100102aa82a690c5a41f690021a8a0316807da00086 [a,b,c] []
theorem Yb4{a b h i:Int}:a<b\/a=b/\(c<d\/c=d/\e<=f)->g<a\/g=a/\(d<h\/d=h/\f<=i)->g<b\/g=b/\(c<h\/c=h/\e<=i):=Z.R 0x40001000000040000001000001000000040000040000001000000040001000000040000001001000000001000000040040040000001000001001000000040000040040000001000040001000000040040000040000001000041000000040001040000001000041000000040041000000040041000000040040000040001000001000001000040000040000040001000040000001000040040000000040001001001000040000040040001000001001000040001000040001001000001000040001040001000041000040001040001001040001001040001000040000001040001000000041000040000001040040000001040040000001040001000041000040001040001000041001000041001000041000041040001041000041040041040041070b02bea0c5bc1f6a0021a9b8316907db80086c2d0afac316f07dac0086a2e0c5a01f6e002187b6c0aba8316b07da80086a680c5a41f68002187 [a,b,c,d,e,f,g,h,i] []
theorem Yb182{a b:Int}:a<=b->min a b=a:=Z.R 0x1000040001001041028a680c3a68087 [a,b] []
theorem Yb183{a b:Int}:0<=a->b<=c/\d<=e->max b (c-a)<=c/\max d (e-a)<=e:=Z.R 0x40000041001000040000041000040b28b01ac20aaa2a06908216cac2aa90851e803d087 [a,b,c,d,e] []
theorem Yb184{a b:Int}:0<=a->0<=b->(0:Int)<=min a b:=Z.R 0x40001040040a680c0f42a40f421e803d087 [a,b] []
theorem Yb185{a b:Int}:min a (max b (a-c)+c)=a:=Z.R 0x1000040001000040001000040001001041028aaaa01a420280c3 [a,b,c] []
theorem Yb186{a b:Int}:min (min a (b+c)) (b+d)=min a (b+min d c):=Z.R 0x100000004000000104000004000100100000004000000104000004000004104000004000100100000004000000100100104000100100100004000104104100004000004100100004000100104000004000004100000004000000104000004000104100000004000000104100004000104100100004000102aac3a40a03ae902aa40a030c3 [a,b,c,d] []
theorem Yb187{a b:Int}:max (max a (b-c)) (b-d)=max a (b-min d c):=Z.R 0x100000004000000100004104100000100004004004000100004104104000100004004004000100000104104000100000004000000100000104100000100000004000000100004004100000100004104004000100004004004004100004004100000100000004000000100000104100000100000004000002aac3a41a02ae906aa41a02083 [a,b,c,d] []
theorem tl_tl(o:Op)(m n:Int):(o.tl m).tl n=o.tl (min n m):=by
 show Op.mk o.tag (max (max o.i1 (o.i2-m)) (o.i2-n)) o.i2 (max (max o.j1 (o.j2-m)) (o.j2-n)) o.j2=Op.mk o.tag (max o.i1 (o.i2-min n m)) o.i2 (max o.j1 (o.j2-min n m)) o.j2
 congr 1
 ·exact Yb187
 ·exact Yb187
theorem hd_hd(o:Op)(m n:Int):(o.hd m).hd n=o.hd (min n m):=by
 show Op.mk o.tag o.i1 (min (min o.i2 (o.i1+m)) (o.i1+n)) o.j1 (min (min o.j2 (o.j1+m)) (o.j1+n))=Op.mk o.tag o.i1 (min o.i2 (o.i1+min n m)) o.j1 (min o.j2 (o.j1+min n m))
 congr 1
 ·exact Yb186
 ·exact Yb186
theorem hd_tl(o:Op)(m0:0<=m)(h:o.i1<=o.i2)(h':o.j1<=o.j2):(o.tl m).hd m=o.tl m:=by
 show Op.mk o.tag (max o.i1 (o.i2-m)) (min o.i2 (max o.i1 (o.i2-m)+m)) (max o.j1 (o.j2-m)) (min o.j2 (max o.j1 (o.j2-m)+m))=Op.mk o.tag (max o.i1 (o.i2-m)) o.i2 (max o.j1 (o.j2-m)) o.j2
 congr 1
 ·exact Yb185
 ·exact Yb185
def tlE(n:Int)(o:Op):Op:=bif o.tag.isEq then o.tl n else o
def hdE(n:Int)(o:Op):Op:=bif o.tag.isEq then o.hd n else o
theorem tlE_t(n:Int)(o:Op):(tlE n o).tag=o.tag:=by unfold tlE;cases o.tag.isEq<;>rfl
theorem hdE_t(n:Int)(o:Op):(hdE n o).tag=o.tag:=by unfold hdE;cases o.tag.isEq<;>rfl
theorem aAv(o:Op)(m n:Int):tlE n (tlE m o)=tlE (min n m) o:=by
 cases e:o.tag.isEq with
 |false=>unfold tlE;rw[e,jq,jq,e];rfl
 |true=>
  have:tlE m o=o.tl m:=by unfold tlE;refine rwL e ?_;rfl
  refine rwL this ?_
  unfold tlE
  rw[show (o.tl m).tag.isEq=ak from e,e,fz,fz,tl_tl]
theorem hdE_2(o:Op)(m n:Int):hdE n (hdE m o)=hdE (min n m) o:=by
 cases e:o.tag.isEq with
 |false=>unfold hdE;rw[e,jq,jq,e];rfl
 |true=>
  have:hdE m o=o.hd m:=by unfold hdE;refine rwL e ?_;rfl
  refine rwL this ?_
  unfold hdE
  rw[show (o.hd m).tag.isEq=ak from e,e,fz,fz,hd_hd]
theorem v0(o:Op)(m0:0<=m)(h:o.i1<=o.i2)(h':o.j1<=o.j2):hdE m (tlE m o)=tlE m o:=by
 cases e:o.tag.isEq with
 |false=>unfold hdE;rw[tlE_t,e];rfl
 |true=>
  have:tlE m o=o.tl m:=by unfold tlE;refine rwL e ?_;rfl
  refine rwL this ?_
  unfold hdE
  rw[show (o.tl m).tag.isEq=ak from e,fz,hd_tl o m0 h h']
theorem r6(n:Int)(o:Op):cQ n [o]= [hdE n (tlE n o)]:=rfl
theorem rZ(n:Int)(o:Op)(L:ae Op)(z:Op):cQ n (o::(L++[z]))=tlE n o::(L++[hdE n z]):=by
 show jG n ((tlE n o::L)++[z])=_
 rw[hJ];rfl
theorem aDk(n0:0<=n)(m0:0<=m)(hs:∀ o,l= [o]->o.i1<=o.i2/\o.j1<=o.j2):cQ n (cQ m l)=cQ (min n m) l:=by
 cases l with
 |nil=>rfl
 |cons o l=>
  rcases kx l with rfl |⟨L,z,rfl⟩
  ·have v:=hs o rfl
   rw[r6,r6,r6,v0 o m0 v.1 v.2,aAv,v0 o (show 0<=min n m by exact Yb184 n0 m0) v.1 v.2]
   have v2:(tlE m o).i1<=(tlE m o).i2/\(tlE m o).j1<=(tlE m o).j2:=by
    unfold tlE
    cases o.tag.isEq with
    |false=>exact v
    |true=>
     exact(Yb183 m0 v:max o.i1 (o.i2-m)<=o.i2/\max o.j1 (o.j2-m)<=o.j2)
   have:=v0 (tlE m o) n0 v2.1 v2.2
   rw[aAv]at this
   exact rwL this rfl
  ·rw[jj,rZ,rZ,rZ,aAv,hdE_2]
theorem oV(h:l≠ []):groups n l=grps n [] (cQ n l):=by
 cases l with
 |nil=>exact bw rfl h
 |cons o l=>rfl
theorem aC6(n0:0<=n)(nm:n<=m)(hs:∀ o,l= [o]->o.i1<=o.i2/\o.j1<=o.j2):groups n (cQ m l)=groups n l:=by
 cases l with
 |nil=>rfl
 |cons o l=>
  have:cQ m (o::l)≠ []:=λe=>by
   have:=ei List.length e
   rw[o0]at this
   cases this
  exact rwL (oV this) (rwL (oV (List.cons_ne_nil _ _)) (rwL (aDk n0 (dw n0 nm) hs) (rwL (show min n m=n by exact Yb182 nm) rfl)))
def Ke(H H':MH)(gi it:Nat):Prop:=∀ (r:Nat) (m:MO),r≠gi->r≠it->H[r]? =aa m->H'[r]? =aa m
inductive GnT(n:Int)(H:MH)(gi it cd:Nat):ae (ae Op)->Prop
 |loop {s gr p:Nat}{o:Op}{all:ae Op} (g:H[gi]? =aa (.gen (.loop it (kX s n cd gr o)))) (c:H[cd]? =aa (.list (all.map Op.v))) (i:H[it]? =aa (.itr (aa (cd,p)))) (pl:p<=all.length) (al:all.length<=900):GnT n H gi it cd (grps n [o.tl n] (all.drop p))
 |last {lo:Lo} (g:H[gi]? =aa (.gen (.last lo))):GnT n H gi it cd []
theorem GnT.to(G:GnT n H gi it cd gs)(k:∀ (r:Nat) (m:MO),r=gi\/r=it\/r=cd->H[r]? =aa m->H'[r]? =aa m):GnT n H' gi it cd gs:=by
 cases G with
 |loop g c i pl al=>exact .loop (k _ _ (.inl rfl) g) (k _ _ (.inr (.inr rfl)) c) (k _ _ (.inr (.inl rfl)) i) pl al
 |last g=>exact .last (k _ _ (.inl rfl) g)
theorem lD(G:GnT n H gi it cd gs)(ic:it≠cd)(ig:it≠gi)(gc:gi≠cd)(k0:∀ {H'},gs= []->Ke H H' gi it->Q none H')(k1:∀ {H' r g gs'},gs=g::gs'->Ke H H' gi it->H'[r]? =aa (.list (g.map Op.v))->H[r]? =none->GnT n H' gi it cd gs'->(∃ m,H'[it]? =aa m)->Q (aa (.ref r)) H'):(gfn X).nx gi H Q:=by
 cases G with
 |last g=>exact Lf.mk (xS g) (k0 rfl λr m q a e=>aE e q.symm)
 | @loop s gr p o all g c i pl al=>
  refine Lf.mk (xS g) (?_:g_f2 X (kX s n cd gr o) (H.set gi (.gen .run)) _)
  refine gf2_i X ?_
  have rn:=aK g (.gen .run)
  have keep:∀ (r:Nat) (m:MO),gi≠r->H[r]? =aa m->(H.set gi (.gen .run))[r]? =aa m:=λr m q e=>aE e q
  have c1:=keep _ _ gc c
  have i1:=keep _ _ ig.symm i
  have fr:H[(H.set gi (MO.gen .run)).length]? =none:=ji (rwL List.length_set (Nat.le_refl _))
  revert rn c1 i1 keep fr
  generalize H.set gi (.gen .run)=H1
  intro rn keep c1 i1 fr
  refine(?_:g_f3 X (kX s n cd H1.length (o.tl n)) (H1++[.list []]) _)
  have k3:∀ (r:Nat) (m:MO),H1[r]? =aa m->((H1++[MO.list []]).set H1.length (.list ([]++[(o.tl n).v])))[r]? =aa m:=λr m e=>aE (Hx.app _ _ _ _ e) (cG e)
  have ki:∀ {H':MH},Ex2 ((H1++[MO.list []]).set H1.length (.list ([]++[(o.tl n).v]))) H' it H1.length->∀ (r:Nat) (m:MO),it≠r->H1[r]? =aa m->H'[r]? =aa m:=λe r m q h=>e _ _ q (cG h) (k3 _ _ h)
  have kk:∀ {H':MH}{m:MO},Ex2 ((H1++[MO.list []]).set H1.length (.list ([]++[(o.tl n).v]))) H' it H1.length->Ke H (H'.set gi m) gi it:=λe r m q1 q2 h=>aE (ki e r m q2.symm (keep r m q1.symm h)) q1.symm
  refine gf3_i X (vs:=[]) (aV _ _) (by decide) ⟨_,rN X (p0:=p) ic (cG i1).symm (cG c1) (all.drop p) (cur:=[o.tl n]) (Nat.le_refl _) rfl (k3 _ _ c1) (k3 _ _ i1) (aK (aV _ _) _) (rwL List.length_drop (rwL az (A206 al))) ?_⟩
  ·refine⟨λ{H' o' p' g} e hi hg et h0 hpl=>?_,λ{H' lo g} e hg et hm=>?_,λ{H'} e et=>?_⟩
   ·have r':=ki e _ _ ig rn
    exact⟨r',k1 et (kk e) (aE hg (cG rn).symm) fr (.loop (aK r' _) (aE (ki e _ _ ic c1) gc) (aE hi ig.symm) hpl al) ⟨_,aE hi ig.symm⟩⟩
   ·have r':=ki e _ _ ig rn
    exact⟨r',k1 et (kk e) (aE hg (cG rn).symm) fr (.last (aK r' _)) (hm.imp λa h=>aE h ig.symm)⟩
   ·exact⟨ki e _ _ ig rn,k0 et (kk e)⟩
inductive Mst(X:XX C)(H:MH)(s:Nat)(W:ae Op):aj Nat->Prop
 |fresh {ra rb rd rj m:Nat}{fs:Str->aj V}{f:Int->aj V}{a b:ae Int} (S:SM H s ra rb rd rj m fs f a b) (hm:fs "matching_blocks" =aa .none) (ho:fs "opcodes" =aa .none) (al:a.length<200) (rl:∀ r,Run a b [⟨0,a.length,0,b.length⟩] [] r->r.length<64) (hW:∀ l,Ops a b l->l=W):Mst X H s W none
 |kept {fs:Str->aj V}{c:Nat} (h:H[s]? =aa (.inst fs)) (hf:fs "opcodes" =aa (.ref c)) (hc:H[c]? =aa (.list (W.map Op.v))):Mst X H s W (aa c)
theorem rM(hx:H[x]? =aa m0)(mv:m0.vs=none)(k:∀ (r:Nat) (m:MO),r≠x->H[r]? =aa m->H'[r]? =aa m)(e:lst H (.ref r)=aa vs):lst H' (.ref r)=aa vs:=by
 have e:H[r]?.bind MO.vs=aa vs:=e
 refine(?_:H'[r]?.bind MO.vs=aa vs)
 refine xEA (aq.mp e) λm h1 h2=>?_
 exact aq.mpr ⟨m,k _ _ (λq=>by
  subst q
  rw[hx]at h1
  refine cyS h1 λzq=>?_;subst zq
  exact aF (mv.symm.trans h2)) h1,h2⟩
theorem SM.off{rd:Nat}(S:SM H s ra rb rd rj n fs f a b)(hx:H[x]? =aa m0)(xs:x≠s)(mv:m0.vs=none)(md:∀ k g,m0≠ .dict k g)(me:m0≠ .eset)(k:∀ (r:Nat) (m:MO),r≠x->H[r]? =aa m->H'[r]? =aa m):SM H' s ra rb rd rj n fs f a b:=by
 refine⟨k _ _ xs.symm S.o,S.fa,S.fb,S.fd,S.fj,rM hx mv k S.ia,rM hx mv k S.ib,k _ _ (λq=>?_) S.d,k _ _ (λq=>?_) S.j,λv=>(S.bj v).imp id fun⟨r,vs,e1,e2,e3⟩=>⟨r,vs,e1,rM hx mv k e2,e3⟩,S.al,S.bl⟩
 ·subst q;exact md _ _ (Option.some.inj (hx.symm.trans S.d))
 ·subst q;exact me (Option.some.inj (hx.symm.trans S.j))
theorem Mst.off{X:XX C}(M:Mst X H s W oc)(hx:H[x]? =aa m0)(xs:x≠s)(mv:m0.vs=none)(md:∀ k g,m0≠ .dict k g)(me:m0≠ .eset)(k:∀ (r:Nat) (m:MO),r≠x->H[r]? =aa m->H'[r]? =aa m):Mst X H' s W oc:=by
 cases M with
 |fresh S hm ho al rl hW=>exact .fresh (S.off hx xs mv md me k) hm ho al rl hW
 |kept h hf hc=>
  refine .kept (k _ _ xs.symm h) hf (k _ _ (λq=>?_) hc)
  subst q
  rw[hx]at hc
  refine cyS hc λzq=>?_;subst zq
  exact cyM mv
theorem Mst.o{X:XX C}(M:Mst X H s W oc):∃ ff,H[s]? =aa (.inst ff):=by
 cases M with
 |fresh S=>exact⟨_,S.o⟩
 |kept h=>exact⟨_,h⟩
theorem Mst.hx{X:XX C}(M:Mst X H s W oc)(x:Hx H H'):Mst X H' s W oc:=by
 cases M with
 |fresh S hm ho al rl hW=>exact .fresh (S.hx x) hm ho al rl hW
 |kept h hf hc=>exact .kept (x _ _ h) hf (x _ _ hc)
structure Asked(X:XX C)(H H':MH)(s:Nat)(W:ae Op)(oc:aj Nat)(c:Nat):Prop where
 ex:Ex H H' s
 st:Mst X H' s W (aa c)
 oc:(oc=aa c/\H'=H)\/(oc=none/\c=H.length)
theorem Mst.ask{X:XX C}(M:Mst X H s W oc)(k:∀ {H' c},Asked X H H' s W oc c->Q (.ref c) H'):bL X [.ref s] H Q:=by
 cases M with
 |fresh S hm ho al rl hW=>
  exact oF X S hm ho al rl λ{H2 r l} e1 e2 e3 e4 O=>k ⟨e1,.kept e3 ⋯ (hW l O▸e4),.inr ⟨rfl,rfl⟩⟩
 |kept h hf hc=>
  exact kch (xC X) ⟨rfl,At.mk h hf (Lp.mk (v:=.bool ak) (H:=H) rfl (Lf.mk (p:=ak) rfl (b3 (At.mk h hf (k ⟨λq q q e=>e,.kept h hf hc,.inl ⟨rfl,rfl⟩⟩)))))⟩
structure G1(X:XX C)(H H':MH)(gi s:Nat)(oc:aj Nat)(W':ae Op)(c it cd:Nat):Prop where
 kp:∀ (r:Nat) (m:MO),r≠gi->r≠s->oc≠aa r->H[r]? =aa m->H'[r]? =aa m
 ks:oc≠none->∀ m,H[s]? =aa m->H'[s]? =aa m
 st:Mst X H' s W' (aa c)
 oc:oc=aa c\/(oc=none/\H[c]? =none)
 itn:H[it]? =none
 ic:it≠cd
 ig:it≠gi
 gc:gi≠cd
 is_:it≠s
 io:it≠c
 go:gi≠c
 cdn:cd=c\/H[cd]? =none
def uZ(H:MH)(i:Nat):Nat->aj MO:=λr=>if r=i then none else H[r]?
theorem but1_i:uZ H i i=none:=bo rfl
theorem aHg:Hp (uZ H i) H:=λr m e=>by
 unfold uZ at e
 split at e
 ·exact aF e
 ·exact e
theorem Hp.b1(h:Hp (uZ H i) H')(e:H[r]? =aa m)(n:r≠i):H'[r]? =aa m:=h _ _ ((bc n).trans e)
theorem qK(M:Mst X H s W oc)(ll:W.length<=200)(hg:H[gi]? =aa (.gen (.fresh (loB ["self","n"] [.ref s,.int n] lo0))))(k0:∀ {H' c it cd},groups n W= []->G1 X H H' gi s oc (cQ n W) c it cd->Q none H')(k1:∀ {H' r g gs c it cd},groups n W=g::gs->G1 X H H' gi s oc (cQ n W) c it cd->H'[r]? =aa (.list (g.map Op.v))->H[r]? =none->GnT n H' gi it cd gs->(∃ m,H'[it]? =aa m)->r≠c/\r≠it->Q (aa (.ref r)) H'):(gfn X).nx gi H Q:=by
 refine Lf.mk (xS hg) (?_:aDd X (loB ["self","n"] [.ref s,.int n] lo0) _ _)
 refine rwL kP_0 ?_
 rw[kP_0]at hg
 refine xE M.o λff so=>?_
 have gs:gi≠s:=λq=>by
  subst q
  exact bw (hg.symm.trans so) nofun
 have rr:=aK hg (MO.gen .run)
 have kp1:∀ (r:Nat) (m:MO),r≠gi->H[r]? =aa m->(H.set gi (.gen .run))[r]? =aa m:=λr m q e=>aE e q.symm
 have gc0:∀ c,oc=aa c->gi≠c:=λc q e=>by
  subst q
  subst e
  cases M with
  |kept h hf hc=>exact bw (hg.symm.trans hc) nofun
 have M1:Mst X (H.set gi (.gen .run)) s W oc:=M.off hg gs rfl nofun nofun kp1
 have fr1:∀ c:Nat,(H.set gi (MO.gen .run))[c]? =none->H[c]? =none:=λc e=>by
  rw[getElem?_eq_none_iff,List.length_set]at e
  exact ji e
 revert rr kp1 M1 fr1
 generalize H.set gi (.gen .run)=Hr
 intro rr kp1 M1 fr1
 refine kch (gp_1 X _) ⟨M1.o,M1.ask λ{H2 c} A=>?_⟩
 have r2:=A.ex _ _ gs.symm rr
 have st:=A.st
 have go:gi≠c:=by
  rcases A.oc with ⟨q,_⟩ |⟨_,q⟩
  ·exact gc0 c q
  ·exact rwL q ((cG rr).symm)
 have oc':oc=aa c\/(oc=none/\H[c]? =none):=by
  rcases A.oc with ⟨q,_⟩ |⟨q1,q2⟩
  ·exact .inl q
  ·exact .inr ⟨q1,fr1 c (q2▸aM Hr)⟩
 have kp2:∀ (r:Nat) (m:MO),r≠gi->r≠s->H[r]? =aa m->H2[r]? =aa m:=λr m q1 q2 e=>A.ex _ _ q2.symm (kp1 _ _ q1 e)
 have ks2:oc≠none->∀ m,H[s]? =aa m->H2[s]? =aa m:=λq m e=>by
  rcases A.oc with ⟨_,z⟩ |⟨z,_⟩
  ·exact rwL z (kp1 _ _ gs.symm e)
  ·exact bw z q
 have fr2:∀ x:Nat,H2[x]? =none->H[x]? =none:=λx e=>by
  cases h:H[x]? with
  |none=>rfl
  |some m=>
   by_cases q1:x=gi
   ·subst q1;exact aF (e.symm.trans r2)
   ·by_cases q2:x=s
    ·subst q2;exact xE st.o λff z=>aF (e.symm.trans z)
    ·exact aF (e.symm.trans (kp2 _ _ q1 q2 h))
 clear A kp1 rr M1 fr1
 cases st with
 | @kept fs _ s2 hf h2=>
 unfold kP
 rw[aD]
 show aB (nM X) (gR3 X) (kP s n (aa (.ref c)) none none none none none none none) H2 _
 refine gp2_i X h2 (A310 ll) λ{H3 cd} x3 h3 hcd=>gp34_i X h3 λ{H4 u1 u2 u3 u4 u5} e4 h4=>?_
 have so':cd≠s:=λq=>by
  subst q
  exact bw (h3.symm.trans (x3 _ _ s2)) nofun
 have fin:(cd=c\/H[cd]? =none)/\gi≠cd/\H4[c]? =aa (.list ((cQ n W).map Op.v))/\∀ (r:Nat) (m:MO),r≠c->H2[r]? =aa m->H4[r]? =aa m:=by
  rcases hcd with ⟨ne,rfl⟩ |⟨e,rfl⟩
  ·refine⟨.inl rfl,go,?_,λr m q h=>e4 _ _ q.symm (x3 _ _ h)⟩
   cases W with
   |nil=>exact bw rfl ne
   |cons o l=>exact h4
  ·refine⟨.inr (fr2 _ (aM _)),(cG r2).symm,?_,λr m q h=>e4 _ _ (cG h) (x3 _ _ h)⟩
   subst e
   exact e4 _ _ (cG h2) (x3 _ _ h2)
 clear hcd
 refine xAAA fin λcdn gc c4 kp4=>?_
 have r4:=kp4 _ _ go r2
 have scn:s≠c:=λq=>by
  subst q
  exact bw (h2.symm.trans s2) nofun
 have s4:=kp4 _ _ scn s2
 have g1:∀ {H':MH}{it:Nat},Hp (uZ H4 gi) H'->H4[it]? =none->it≠cd->G1 X H H' gi s oc (cQ n W) c it cd:=λ{H' it} h hi ic=>
  ⟨λr m q1 q2 q3 e=>h.b1 (kp4 _ _ (λq=>q3 (oc'.elim (λz=>q▸z) λz=>aF (z.2.symm.trans (q▸e)))) (kp2 _ _ q1 q2 e)) q1,
   λq m e=>h.b1 (kp4 _ _ scn (ks2 q m e)) gs.symm,.kept (h.b1 s4 gs.symm) hf (h.b1 c4 go.symm),oc',fr2 _ (by
    cases z:H2[it]? with
    |none=>rfl
    |some m=>
     by_cases q:it=c
     ·subst q;exact aF (hi.symm.trans c4)
     ·exact aF (hi.symm.trans (kp4 _ _ q z))),ic,λq=>aF (hi.symm.trans (q▸r4)),gc,λq=>aF (hi.symm.trans (q▸s4)),λq=>aF (hi.symm.trans (q▸c4)),go,cdn⟩
 have fr4:∀ x:Nat,H4[x]? =none->H[x]? =none:=λx e=>fr2 _ (by
  cases z:H2[x]? with
  |none=>rfl
  |some m=>
   by_cases q:x=c
   ·subst q;exact aF (e.symm.trans c4)
   ·exact aF (e.symm.trans (kp4 _ _ q z)))
 have b4:Hp (uZ H4 gi) H4:=aHg
 have alen:(jG n (kC n (iI W))).length<=201:=by rw[oY,o9];exact Nat.le_trans (wF W) (qu ll)
 have c5:=Hx.app H4 [MO.list []] _ _ h4
 have g5:=aV H4 (.list [])
 have r5:=Hx.app H4 [MO.list []] _ _ r4
 have x5:Hp (uZ H4 gi) (H4++[MO.list []]):=b4.hx (.app _ _)
 have i5:H4[(H4++[MO.list []]).length]? =none:=(Hx.app H4 [MO.list []]).fresh
 have gb:=b4.fresh
 have cg:=cG h4
 have rg:=cG r4
 have gfr:=fr4 _ (aM H4)
 have gn:H4.length≠c/\H4.length≠(H4++[MO.list []]).length:=⟨cG c4,rwL af ((uc _).symm)⟩
 refine kch (B:=((∃ vs,lst (H4++[MO.list []]) (.ref cd)=aa vs)/\(gfn X).loop (H4++[MO.list []]).length (kL s n cd H4.length u1 u2 u3 u4 u5) ((H4++[MO.list []])++[.itr (aa (cd,0))]) (GFn.finK gi Q))) ⋯ ⟨⟨_,aR c5⟩,?_⟩
 revert c5 g5 r5 x5 gb cg rg i5 gfr gn
 generalize H4.length=gr
 generalize H4++[MO.list []]=H5
 intro c5 g5 r5 x5 i5 gb cg rg gfr gn
 have k6:Hx H5 (H5++[MO.itr (aa (cd,0))]):=.app _ _
 have x6:Hp (uZ H4 gi) (H5++[MO.itr (aa (cd,0))]):=x5.hx k6
 have ic:H5.length≠cd:=cG c5
 have ig:H5.length≠gi:=cG r5
 have bi:=x5.fresh
 have G:=λ{H':MH}{m:MO} (e:Ex2 (H5++[MO.itr (aa (cd,0))]) H' H5.length gr)=>g1 (it:=H5.length) ((e.hx x6 bi gb).set (m:=m) but1_i) i5 ic
 refine⟨_,rN X (p0:=0) ic (cG g5) cg (jG n (kC n (iI W))) (cur:=[]) (Nat.le_refl _) rfl (k6 _ _ c5) (aV _ _) (k6 _ _ g5) (rwL og (A311 alen)) ⟨λ{H' o' p' g} e hi hg et h0 hpl=>?_,λ{H' lo g} e hg et hm=>?_,λ{H'} e et=>?_⟩⟩
 ·have r':=e _ _ ig rg (k6 _ _ r5)
  exact⟨r',k1 et (G e) (aE hg rg.symm) gfr (.loop (aK r' _) (aE (e _ _ ic cg (k6 _ _ c5)) gc) (aE hi ig.symm) hpl (Nat.le_trans alen (by decide))) ⟨_,aE hi ig.symm⟩ gn⟩
 ·have r':=e _ _ ig rg (k6 _ _ r5)
  exact⟨r',k1 et (G e) (aE hg rg.symm) gfr (.last (aK r' _)) (hm.imp λa h=>aE h ig.symm) gn⟩
 ·have r':=e _ _ ig rg (k6 _ _ r5)
  exact⟨r',k0 et (G e)⟩
theorem eqE_i{α:Type}(f:α->V)(d:α->mh){l:ae α}{P:fq->MH->Prop}(h1:lst H (.ref r)=aa (l.map f))(h2:lst H (.ref r')=aa [])(hd:∀ x∈l,rd H 7 (f x)=aa (d x))(hs:∀ x∈l,(d x).canLay0=ak/\(d x).depth<=9)(q:P (!l.isEmpty) H):Lp (bG not (.ref r) (.ref r') H) λv H1=>Lf (tr v H1) λb=>P b H1:=Lp.mk (v:=.bool (!l.isEmpty)) (H:=H) (by unfold bG;refine rwL (zT f d h1 h2 hd hs) ?_;rfl) (Lf.mk (p:= !l.isEmpty) rfl q)
def extK(rm:Nat)(lo:Lo)(K:SK):EK:=λv H2=>Lf (H2[rm]?.bind MO.own) λvs=>Lf (own H2 v) λws=>vs.length+ws.length<1000000/\K .next lo (H2.set rm (.list (vs++ws)))
theorem extK_i(h:H[rm]? =aa (.list vs))(h':H[r]? =aa (.list ws))(hl:vs.length+ws.length<1000000)(q:K .next lo (H.set rm (.list (vs++ws)))):extK rm lo K (.ref r) H:=Lf.mk (eX h) (Lf.mk (p:=ws) (eX h') ⟨hl,q⟩)
theorem hV(q:Q (.int (x+y)) H):Lp (aH (.int x) (.int y) H) Q:=Lp.mk (v:=.int (x+y)) (H:=H) rfl q
theorem sub_i(q:Q (.int (x-y)) H):Lp (cP (.int x) (.int y) H) Q:=Lp.mk (v:=.int (x-y)) (H:=H) rfl q
theorem lR:∀ (n:Nat) (x:Int),jW x 1 n=(List.range n).map λk=>V.int (x+(k:Nat))
 |0,x=>rfl
 |n+1,x=>by
  rw[aF7,lR n (x+1),List.range_succ_eq_map,fp,zg]
  congr 1
  ·show V.int x=V.int (x+((0:Nat):Int));rw[Int.natCast_zero,pb]
  ·refine List.map_congr_left λk q=>(?_:V.int (x+1+(k:Int))=V.int (x+((k+1:Nat):Int)))
   rw[Int.natCast_add,sv,Int.add_comm 1];rfl
def nv(k:Nat):V:=.int (k:Nat)
theorem aBj(n:Nat):jW 0 1 n=(List.range n).map nv:=by
 rw[lR]
 exact List.map_congr_left λk q=>ei V.int (ky _)
theorem rng_ok(n:Nat)(h:n<1000000):rOk 0 n 1=ak:=by
 unfold rOk
 rewrite [ay (show(n:Int)<1000000 by exact A263 h),ay (show-1000000<(n:Int) by exact A264)];rfl
theorem aBh(q:Q (.rng 0 n 1) H):cY [.int n] H Q:=kch (B:=Q (.rng 0 n 1) H) ⋯ q
def eRL(x:Str):EF:=aL cY (esC (aL bY (esC (eN x) esN)) esN)
theorem vM(hx:lo x=aa (.ref r))(h:lst H (.ref r)=aa vs)(hl:vs.length<100000)(q:P (0,vs.length,1) H):iR (eRL x) lo H P:=by
 refine aP hx (rP h (A258 hl) (aBh (n:=vs.length) (Lf.mk (p:=(0,(vs.length:Int),1)) rfl ⟨rng_ok _ (A258 hl),?_⟩)))
 have e:pV 0 (vs.length:Int) 1=vs.length:=by
  show((vs.length:Int)-0).toNat=_
  rw[Int.sub_zero,mr]
 exact(rwL e q:P (0,pV 0 (vs.length:Int) 1,1) H)
theorem at_k(h:H[r]? =aa (.list vs))(hv:vs[k]? =aa v)(hl:vs.length<100000)(q:Q v H):Lp (aQ (.ref r) (nv k) H) Q:=by
 have kl:=(List.getElem?_eq_some_iff.mp hv).1
 exact Lp.mk (eZ h ⟨A264,A265 hl kl⟩ (cI (ee k) (A266 kl)) (by rw[mr];exact hv)) q
theorem fJ:upd lo x v x=aa v:=bo rfl
theorem tB(q:E (upd lo x v) H λw H1=>Lf (H1[ai]?.bind MO.own) λvs=>vs.length<1000000/\P (upd lo x v) (H1.set ai (.list (vs++[w])))):fW (aN x) (tK ak) (cD E ai) v lo H P:=q
def Evv(f:EF)(lo:Lo)(H:MH)(v:V):Prop:=∀ Q:EK,Q v H->f lo H Q
theorem Evv.bin(h1:Evv f1 lo H v1)(h2:Evv f2 lo H v2)(ho:g v1 v2 H=aa (w,H)):Evv (aA g f1 f2) lo H w:=λQ q=>aI (h1 _ (h2 _ (Lp.mk ho q)))
theorem Evv.n(h:lo x=aa v):Evv (eN x) lo H v:=λQ q=>aP h q
theorem Evv.k:Evv (eK v) lo H v:=λQ q=>q
theorem aD6(h:0<y/\y<1000000000):tU (.int x) (.int y) H=aa (.int (x/y),H):=bo (ay h)
theorem oH(h:0<y):kV (.int x) (.int y) H=aa (.int (x%y),H):=bo (ay h)
theorem aE3:aH (.int x) (.int y) H=aa (.int (x+y),H):=rfl
theorem ne_i{P:fq->MH->Prop}(h:eqv H x y=aa ak)(q:P am H):Lp (bG not x y H) λv H1=>Lf (tr v H1) λb=>P b H1:=Lp.mk (v:=.bool am) (H:=H) (by unfold bG;refine rwL h ?_;rfl) (Lf.mk (p:=am) rfl q)
theorem uL{α:Type}(g:α->V)(l:ae α):(l.flatMap λx=>[g x])=l.map g:=(List.map_eq_flatMap ..).symm
theorem oK(hx:lo x=aa (.ref r))(h:lst H (.ref r)=aa vs)(hl:vs.length<100000)(q:Q (.int vs.length) H):aL bY (esC (eN x) esN) lo H Q:=aP hx (rP h (tq hl (by decide)) q)
theorem i9(q:Q (.int (-1)) H):dM (eK (.int 1)) lo H Q:=q
theorem tO{α:Type}{K:ItK C}{bf:BF}(f:α->V)(Inv:ae α->Lo->MH->Prop)(hx:∀ {l lo H},Inv l lo H->Hx B H)(he:∀ {lo H},Inv [] lo H->Q lo H)(hs:∀ {x l lo H P},Inv (x::l) lo H->(∀ {lo' H'},Inv l lo' H'->P lo' H')->fW tgt t (bf ai) (f x) lo H P):∀ (l:ae α){it:K.σ}{lo:Lo}{H:MH},Its K B it (l.map f)->Inv l lo H->lQ K tgt t (bf ai) (l.length+1) it lo H Q
 | [],it,lo,H,hi,i=>by
  cases hi with
  |nil h=>exact h (hx i) (he i)
 |x::l,it,lo,H,hi,i=>by
  cases hi with
  |cons h ht=>exact h (hx i) (hs i λi'=>tO f Inv hx he hs l ht i')
theorem aGp{K:ItK C}{σ:Nat->K.σ}(h:H[r]? =aa (.list vs))(hl:vs.length<1000000)(q:Q (.ref H.length) (H++[.list vs])):dD K σ [.ref r] H Q:=by
 have e:isG H [.ref r]=none:=by
  show(H[r]?.bind MO.gn).map _=_
  refine rwL h ?_;rfl
 unfold dD
 refine rwL e (Lp.mk (v:=.ref H.length) (H:=H++[.list vs]) ?_ q)
 show(lst H (.ref r)).bind _=_
 exact rwL (aR h) (bo hl)
def dG(p:Nat×ae Op):mh:=.list (p.2.map dO)
theorem dG_ok(p:Nat×ae Op):(dG p).canLay0=ak/\(dG p).depth<=9:=by
 have h:=xB dO (m:=8) p.2 λo q=>⟨(aEb o).1,(by decide:1<=8)⟩
 exact⟨h.1,qu h.2⟩
theorem Lo.ne(h:y≠x):upd lo x v y=lo y:=bc h
theorem aS(h:g lo H K):bN g K .next lo H:=h
def Fs(l:ae (Str×V))(lo:Lo):Prop:=∀ x v,l.lookup x=aa v->lo x=aa v
theorem Fs.cons(h:Fs l lo)(x:Str)(v:V):Fs ((x,v)::l) (upd lo x v):=λy w e=>by
 rw[List.lookup]at e
 by_cases q:y=x
 ·subst q
  rw[pt]at e
  exact fJ.trans e
 ·rw[show (y==x)=am by simpa using q]at e
  exact(Lo.ne q).trans (h y w e)
def rv{β:Type}(p:Nat×β):V:=.ref p.1
def HB{β:Type}(ob:β->ae V)(H:MH)(ps:ae (Nat×β)):Prop:=∀ p∈ps,H[p.1]? =aa (.list (ob p.2))
theorem HB.hx{ob:β->ae V}(h:HB ob B ps)(x:Hx B H):HB ob H ps:=λp hp=>x _ _ (h p hp)
def off(l:ae (Str×V))(hid:ae Str):fq:=l.all λp=> !hid.contains p.1
theorem Fs.hide(F:Fs l lo)(h:off l hid=ak):Fs l (hide hid lo):=λx v e=>by
 have:=jd.mp h _ (mem_of_lookup e)
 show(if hid.contains x then none else lo x)=_
 cases c:hid.contains x with
 |true=>rw[show hid.contains (x,v).1=ak from c]at this;cases this
 |false=>exact F x v e
theorem Fs.up(F:Fs l lo)(h:off l [y]=ak):Fs l (upd lo y w):=λx v e=>by
 have:=jd.mp h _ (mem_of_lookup e)
 refine(Lo.ne λq=>?_).trans (F x v e)
 rw[show [y].contains (x,v).1=ak from by exact rwL (show (x,v).1=y from q) (List.contains_iff_mem.mpr be)]at this
 cases this
theorem Fs.re(F:Fs l lo)(m:ae (Str×V))(h:m.map (λp=>l.lookup p.1)=m.map λp=>aa p.2):Fs m lo:=λx v e=>F x v (List.map_inj_left.mp h _ (mem_of_lookup e))
theorem iR1_i(b: -1000000<z/\z<1000000)(he:Evv E lo H (.int z))(q:P (0,z.toNat,1) H):iR (aL cY (esC E esN)) lo H P:=by
 refine he _ (bD (aBh (Lf.mk (p:=(0,z,1)) rfl ⟨?_,?_⟩)))
 ·unfold rOk
  refine rwL (ay b.1) (rwL (ay b.2) ?_);rfl
 ·show P (0,(z-0).toNat,1) H
  rw[Int.sub_zero];exact q
theorem extn_i(hx:lo x=aa (.ref r))(h:H[r]? =aa (.list vs))(q:g lo H (extK r lo K)):aW (eExt (eN x) g) lo H K:=kch (B:=Lf (lo x) λv=>Lf v.rf λi=>(∃ vs,H[i]? =aa (.list vs))/\g lo H (extK i lo K)) ⋯ (Lf.mk hx (Lf.mk rfl ⟨⟨_,h⟩,q⟩))
def appK(r:Nat)(lo:Lo)(K:SK):EK:=λv H2=>Lf (H2[r]?.bind MO.own) λvs=>vs.length<1000000/\K .next lo (H2.set r (.list (vs++[v])))
theorem wQ(hx:lo x=aa (.ref r))(h:H[r]? =aa (.list vs))(q:g lo H (appK r lo K)):aW (b9 (eN x) g) lo H K:=kch (B:=Lf (lo x) λv=>Lf v.rf λi=>(∃ vs,H[i]? =aa (.list vs))/\g lo H (appK i lo K)) ⋯ (Lf.mk hx (Lf.mk rfl ⟨⟨_,h⟩,q⟩))
theorem jL(h:H[r]? =aa (.list vs))(hl:vs.length<1000000)(q:K .next lo (H.set r (.list (vs++[v])))):appK r lo K v H:=Lf.mk (eX h) ⟨hl,q⟩
theorem sNew_i(q:K .next (upd lo x (.ref H.length)) (H++[.list []])):aY x (bU esN) lo H K:=kch (B:=K .next (upd lo x (.ref H.length)) (H++[.list []])) ⋯ q
theorem rng2_i{a b:Int}(q:Q (.rng a b 1) H):cY [.int a,.int b] H Q:=kch (B:=Q (.rng a b 1) H) ⋯ q
theorem min_e(q:Q (.int (min x y)) H):m6 [.int x,.int y] H Q:=kch (B:=Q (.int (min x y)) H) ⋯ q
theorem m9(h:f lo H λv H1=>Lf v.tp λvs=>vs.length=names.length/\Lf (upds names.reverse vs.reverse lo) λlo'=>K .next lo' H1):cS names f lo H K:=h
theorem pH(h:f lo H λv H1=>Lp (mkL [v] H1) Q):bU (esC f esN) lo H Q:=h
theorem j9(q:Q (.ref H.length) (H++[.list [v]])):Lp (mkL [v] H) Q:=Lp.mk (v:=.ref H.length) (H:=H++[.list [v]]) (by show(if [v].length<1000000 then _ else none)=_;exact bo (show 1<1000000 by decide)) q
theorem eqI_e:bG id (.int x) (.int y) H=aa (.bool (decide (x=y)),H):=by rfl'
def bX(a:Int)(k:Nat):ae Int:=(List.range k).map λt:Nat=>a+t
theorem aBf(a:Int)(k:Nat):jW a 1 k=(bX a k).map V.int:=by
 rw[lR]
 unfold bX
 refine rwL zg ?_;rfl
theorem aBg{KK:ItK C}{σ:Nat->KK.σ}{a b:Int}{k:Nat}(e:b=a+k)(h1: -1000000<a/\a<1000000/\ -1000000<b/\b<1000000)(kl:k<1000000)(q:Q (.ref H.length) (H++[.list ((bX a k).map V.int)])):dD KK σ [.rng a b 1] H Q:=by
 have g:isG H [.rng a b 1]=none:=rfl
 unfold dD
 refine rwL g (Lp.mk (v:=.ref H.length) (H:=H++[.list ((bX a k).map V.int)]) ?_ q)
 have ok:rOk a b 1=ak:=by
  unfold rOk
  refine rwL (ay h1.1) (rwL (ay h1.2.1) (rwL (ay h1.2.2.1) (rwL (ay h1.2.2.2) ?_)));rfl
 have ln:pV a b 1=k:=by
  show(b-a).toNat=k;exact Yc167 e
 show(if rOk a b 1=ak then mkL (jW a 1 (pV a b 1)) H else none)=_
 rw[bo ok,ln,aBf]
 exact bo (by rw[ar];unfold bX;rw[ar,ri];exact kl)
theorem rng_e{KK:ItK C}{σ:Nat->KK.σ}{a b:Int}{c:Nat}(h1:Evv E1 lo H (.int a))(h2:Evv E2 lo H (.int b))(e:b=a+c)(bd: -1000000<a/\a<1000000/\ -1000000<b/\b<1000000)(cl:c<1000000)(q:Q (.ref H.length) (H++[.list ((bX a c).map V.int)])):aL (dD KK σ) (esC (aL cY (esC E1 (esC E2 esN))) esN) lo H Q:=bS (aJ (bS (aJ (h1 _ (aJ (h2 _ (bD (rng2_i (bD (aBg e bd cl q))))))))))
theorem kU{a:Int}{k:Nat}:(bX a k).length=k:=(ar ..).trans ri
theorem lL(h:f lo H λv H1=>Lf (tr v H1) λb=>P b H1):tE f lo H P:=h
theorem tk_i{b:fq}(h:P b H):tK b lo H P:=h
theorem jO{α:Type}(l:ae α):l= []\/∃ a x,l=a++[x]:=(kx l).imp_right fun⟨a,x,h⟩=>⟨a,x,h.trans jj⟩
structure CG{β:Type}(ob:β->ae V)(X:XX C)(H H':MH)(s:Nat)(oc:aj Nat)(W':ae Op)(c ai:Nat)(ps:ae (Nat×β)):Prop where
 kp:∀ (r:Nat) (m:MO),r≠s->oc≠aa r->H[r]? =aa m->H'[r]? =aa m
 ks:oc≠none->∀ m,H[s]? =aa m->H'[s]? =aa m
 st:Mst X H' s W' (aa c)
 oc:oc=aa c\/(oc=none/\H[c]? =none)
 h:H'[ai]? =aa (.list (ps.map rv))
 hd:∀ p∈ps,H'[p.1]? =aa (.list (ob p.2))/\H[p.1]? =none/\p.1≠ai/\p.1≠c
 nd:(ps.map Prod.fst).Nodup
 ac:ai≠c
structure CGg{β:Type}(ob:β->ae V)(X:XX C)(H H':MH)(n:Int)(s:Nat)(oc:aj Nat)(W':ae Op)(c ai gi it cd:Nat)(gs:ae (ae Op))(ps:ae (Nat×β)):Prop where
 cg:CG ob X H H' s oc W' c ai ps
 G:GnT n H' gi it cd gs
 ic:it≠cd
 ig:it≠gi
 gc:gi≠cd
 is_:it≠s
 io:it≠c
 go:gi≠c
 gs_:gi≠s
 ag:ai≠gi
 ai_:ai≠it
 acd:ai≠cd
 hn:H[ai]? =none
 hg:H[gi]? =none
 hi:H[it]? =none
 hit:∃ m,H'[it]? =aa m
 dg:∀ p∈ps,p.1≠gi/\p.1≠it
theorem Mst.ke{X:XX C}(M:Mst X H s W (aa c))(k:∀ (r:Nat) (m:MO),r=s\/r=c->H[r]? =aa m->H'[r]? =aa m):Mst X H' s W (aa c):=by
 cases M with
 |kept h hf hc=>exact .kept (k _ _ (.inl rfl) h) hf (k _ _ (.inr rfl) hc)
theorem CG.ke{ob:β->ae V}{X:XX C}{oc:aj Nat}(S:CGg ob X H H' n s oc W' c ai gi it cd gs ps)(k:Ke H' H2 gi it):CG ob X H H2 s oc W' c ai ps:=by
 have D:=S.cg
 have fr:∀ {r:Nat}{m:MO},H[r]? =aa m->r≠gi/\r≠it:=λ{r m} e=>⟨λq=>aF (S.hg.symm.trans (q▸e)),λq=>aF (S.hi.symm.trans (q▸e))⟩
 refine⟨λr m q1 q2 e=>k _ _ (fr e).1 (fr e).2 (D.kp _ _ q1 q2 e),λq m e=>k _ _ S.gs_.symm S.is_.symm (D.ks q m e),D.st.ke λr m q e=>?_,D.oc,k _ _ S.ag S.ai_ D.h,λp hp=>⟨k _ _ (S.dg p hp).1 (S.dg p hp).2 (D.hd p hp).1,(D.hd p hp).2⟩,D.nd,D.ac⟩
 rcases q with rfl |rfl
 ·exact k _ _ S.gs_.symm S.is_.symm e
 ·exact k _ _ S.go.symm S.io.symm e
theorem CGg.hx{ob:β->ae V}{X:XX C}(S:CGg ob X H H' n s oc W' c ai gi it cd gs ps)(x:Hx H' H2):CGg ob X H H2 n s oc W' c ai gi it cd gs ps:=⟨⟨λr m q1 q2 e=>x _ _ (S.cg.kp _ _ q1 q2 e),λq m e=>x _ _ (S.cg.ks q m e),S.cg.st.hx x,S.cg.oc,x _ _ S.cg.h,λp hp=>⟨x _ _ (S.cg.hd p hp).1,(S.cg.hd p hp).2⟩,S.cg.nd,S.cg.ac⟩,S.G.to λr m a e=>x _ _ e,S.ic,S.ig,S.gc,S.is_,S.io,S.go,S.gs_,S.ag,S.ai_,S.acd,S.hn,S.hg,S.hi,S.hit.imp λa e=>x _ _ e,S.dg⟩
theorem CGg.put2{ob:β->ae V}{X:XX C}{b:β}(S:CGg ob X H H' n s oc W' c ai gi it cd gs2 ps)(T:CGg ob X H H2 n s oc W' c ai gi it cd gs ps)(h2:H2[r']? =aa (.list (ob b)))(f:H'[r']? =none):CGg ob X H (H2.set ai (.list (ps.map rv++[.ref r']))) n s oc W' c ai gi it cd gs (ps++[(r',b)]):=by
 have D:=T.cg
 have as:ai≠s:=λq=>xE D.st.o λff z=>bw ((q▸D.h).symm.trans z) nofun
 have old:∀ {y:Nat}{m:MO},H'[y]? =aa m->r'≠y:=λ{y m} e q=>aF (f.symm.trans (q▸e))
 have gg:∃ m,H'[gi]? =aa m:=by
  cases S.G with
  |loop g=>exact⟨_,g⟩
  |last g=>exact⟨_,g⟩
 have ra:r'≠ai:=old S.cg.h
 have rc:r'≠c:=by
  cases S.cg.st with
  |kept h hf hc=>exact old hc
 refine⟨⟨λr m q1 q2 e=>aE (D.kp _ _ q1 q2 e) λq=>aF (S.hn.symm.trans (q▸e)),λq m e=>aE (D.ks q m e) as,D.st.ke λr m q e=>aE e ?_,D.oc,?_,λp hp=>?_,?_,D.ac⟩,T.G.to λr m q e=>aE e ?_,S.ic,S.ig,S.gc,S.is_,S.io,S.go,S.gs_,S.ag,S.ai_,S.acd,S.hn,S.hg,S.hi,T.hit.imp λa e=>aE e S.ai_,λp hp=>?_⟩
 ·rcases q with rfl |rfl
  ·exact as
  ·exact D.ac
 ·exact rwL au (aK D.h _)
 ·rcases cu.mp hp with hp |hp
  ·have:=D.hd p hp
   exact⟨aE this.1 this.2.2.1.symm,this.2⟩
  ·refine rwL (cq.mp hp) ⟨aE h2 ra.symm,?_,ra,rc⟩
   cases z:H[r']? with
   |none=>rfl
   |some m=>
    by_cases q1:r'=s
    ·exact xE S.cg.st.o λff e=>bw q1 (old e)
    ·by_cases q2:oc=aa r'
     ·rcases S.cg.oc with q3 |q3
      ·exact bw (Option.some.inj (q2.symm.trans q3)) rc
      ·rw[q3.1]at q2;exact aF q2
     ·exact aF (f.symm.trans (S.cg.kp _ _ q1 q2 z))
 ·rw[au,si]
  refine⟨D.nd,jg _ _,λa ha b hb e=>(xEA (nu.mp ha) λd hd e2=>?_)⟩
  rw[cq.mp hb,<-e2]at e
  exact old (S.cg.hd d hd).1 e.symm
 ·rcases q with rfl |rfl |rfl
  ·exact S.ag
  ·exact S.ai_
  ·exact S.acd
 ·rcases cu.mp hp with hp |hp
  ·exact S.dg p hp
  ·exact rwL (cq.mp hp) ⟨xE gg λm e=>old e,xE S.hit λm e=>old e⟩
theorem CGg.put{ob:β->ae V}{X:XX C}{b:β}(S:CGg ob X H H' n s oc W' c ai gi it cd gs ps)(x:Hx H' H2)(h2:H2[r']? =aa (.list (ob b)))(f:H'[r']? =none):CGg ob X H (H2.set ai (.list (ps.map rv++[.ref r']))) n s oc W' c ai gi it cd gs (ps++[(r',b)]):=S.put2 (S.hx x) h2 f
theorem yN{ob:β->ae V}{X:XX C}{I:Lo->Prop}(hs:∀ g,g∈all->∀ {lo1:Lo}{H1:MH}{r:Nat}{P:LK},I lo1->(∀ (r:Nat) (m:MO),r≠s->oc≠aa r->H[r]? =aa m->H1[r]? =aa m)->H1[r]? =aa (.list (g.map Op.v))->(∀ {lo' H2 r'},I lo'->Hx H1 H2->H2[r']? =aa (.list (ob (f g)))->H1[r']? =none->Lf (H2[ai]?.bind MO.own) λvs=>vs.length<1000000/\P lo' (H2.set ai (.list (vs++[.ref r']))))->fW (aN x) (tK ak) (cD E ai) (.ref r) lo1 H1 P)(S:CGg ob X H H' n s oc W' c ai gi it cd gs ps)(hr:H'[r]? =aa (.list (g.map Op.v)))(i:I lo)(ea:done++g::gs=all)(al:all.length<10000)(ed:ps.map Prod.snd=done.map f)(k:∀ {lo' H3 ps'},I lo'->CGg ob X H H3 n s oc W' c ai gi it cd gs ps'->ps'.map Prod.snd=(done++[g]).map f->P lo' H3):fW (aN x) (tK ak) (cD E ai) (.ref r) lo H' P:=by
 refine hs g (ea▸bg _ be) i S.cg.kp hr λ{lo' H2 r'} i' x2 h2 f2=>Lf.mk (eX (x2 _ _ S.cg.h)) ⟨?_,k (ps':=ps++[(r',f g)]) i' (S.put x2 h2 f2) (by refine rwL au (rwL au (rwL ed ?_));rfl)⟩
 rw[ar]
 have e1:=ei List.length ed
 have e2:=ei List.length ea
 rw[ar,ar]at e1
 rw[af,di]at e2
 exact Yc0 al e1 e2
theorem cg_run{ob:β->ae V}{X:XX C}{I:Lo->Prop}(al:all.length<10000)(hs:∀ g,g∈all->∀ {lo1:Lo}{H1:MH}{r:Nat}{P:LK},I lo1->(∀ (r:Nat) (m:MO),r≠s->oc≠aa r->H[r]? =aa m->H1[r]? =aa m)->H1[r]? =aa (.list (g.map Op.v))->(∀ {lo' H2 r'},I lo'->Hx H1 H2->H2[r']? =aa (.list (ob (f g)))->H1[r']? =none->Lf (H2[ai]?.bind MO.own) λvs=>vs.length<1000000/\P lo' (H2.set ai (.list (vs++[.ref r']))))->fW (aN x) (tK ak) (cD E ai) (.ref r) lo1 H1 P)(k:∀ {lo' H3 ps'},CG ob X H H3 s oc W' c ai ps'->ps'.map Prod.snd=all.map f->P lo' H3):∀ (gs:ae (ae Op)){done:ae (ae Op)}{ps:ae (Nat×β)}{lo:Lo}{H':MH},CGg ob X H H' n s oc W' c ai gi it cd gs ps->I lo->done++gs=all->ps.map Prod.snd=done.map f->lQ (hI X.gc 6 X.gv) (aN x) (tK ak) (cD E ai) (gs.length+1) gi lo H' P:=λgs=>by
 induction gs with
 |nil=>
  intro done ps lo H' S i ea ed
  refine lD X S.G S.ic S.ig S.gc (λ{H2} q k2=>k (CG.ke S k2) (by rw[ed,<-ea,cw])) λ{H2 r g gs'} e=>nomatch e
 |cons g0 gs ih=>
  intro done ps lo H' S i ea ed
  refine lD X S.G S.ic S.ig S.gc (λ{H2} e q=>nomatch e) λ{H2 r g gs'} e k2 hr fr G2 hm=>?_
  cases e
  have D:=CG.ke S k2
  have S2:CGg ob X H H2 n s oc W' c ai gi it cd gs ps:=⟨D,G2,S.ic,S.ig,S.gc,S.is_,S.io,S.go,S.gs_,S.ag,S.ai_,S.acd,S.hn,S.hg,S.hi,hm,S.dg⟩
  exact yN hs S2 hr i ea al ed λ{lo' H3 ps'} i' S3 e3=>ih (done:=done++[g0]) S3 i' (by rw[bn];exact ea) e3
theorem aEe{Q:EK}(ob:β->ae V)(f:ae Op->β)(I:Lo->Prop)(M:Mst X H s W oc)(ll:W.length<=200)(gl:(groups n W).length<10000)(i0:I (hide hid lo))(hs:∀ g,g∈groups n W->∀ {lo1:Lo}{H1:MH}{r:Nat}{P:LK},I lo1->(∀ (r:Nat) (m:MO),r≠s->oc≠aa r->H[r]? =aa m->H1[r]? =aa m)->H1[r]? =aa (.list (g.map Op.v))->(∀ {lo' H2 r'},I lo'->Hx H1 H2->H2[r']? =aa (.list (ob (f g)))->H1[r']? =none->Lf (H2[(H++[MO.gen (.fresh (loB ["self","n"] [.ref s,.int n] lo0))]).length]?.bind MO.own) λvs=>vs.length<1000000/\P lo' (H2.set (H++[MO.gen (.fresh (loB ["self","n"] [.ref s,.int n] lo0))]).length (.list (vs++[.ref r']))))->fW (aN x) (tK ak) (cD E (H++[MO.gen (.fresh (loB ["self","n"] [.ref s,.int n] lo0))]).length) (.ref r) lo1 H1 P)(k:∀ {H' c ps},CG ob X H H' s oc (cQ n W) c (H++[MO.gen (.fresh (loB ["self","n"] [.ref s,.int n] lo0))]).length ps->ps.map Prod.snd=(groups n W).map f->Q (.ref (H++[MO.gen (.fresh (loB ["self","n"] [.ref s,.int n] lo0))]).length) H'):∃ nn,lQ (hI X.gc 6 X.gv) (aN x) (tK ak) (cD E (H++[MO.gen (.fresh (loB ["self","n"] [.ref s,.int n] lo0))]).length) nn H.length (hide hid lo) ((H++[MO.gen (.fresh (loB ["self","n"] [.ref s,.int n] lo0))])++[.list []]) λa H2=>Q (.ref (H++[MO.gen (.fresh (loB ["self","n"] [.ref s,.int n] lo0))]).length) H2:=by
 have hg:((H++[MO.gen (.fresh (loB ["self","n"] [.ref s,.int n] lo0))])++[MO.list []])[H.length]? =aa (.gen (.fresh (loB ["self","n"] [.ref s,.int n] lo0))):=Hx.app _ _ _ _ (aV H (MO.gen (.fresh (loB ["self","n"] [.ref s,.int n] lo0))))
 have ha:=aV (H++[MO.gen (.fresh (loB ["self","n"] [.ref s,.int n] lo0))]) (MO.list [])
 have x1:Hx H ((H++[MO.gen (.fresh (loB ["self","n"] [.ref s,.int n] lo0))])++[MO.list []]):=(Hx.app _ _).trans (.app _ _)
 have hn:H[(H++[MO.gen (.fresh (loB ["self","n"] [.ref s,.int n] lo0))]).length]? =none:=(Hx.app H [MO.gen (.fresh (loB ["self","n"] [.ref s,.int n] lo0))]).fresh
 have hgn:=aM H
 have ag:(H++[MO.gen (.fresh (loB ["self","n"] [.ref s,.int n] lo0))]).length≠H.length:=rwL af (uc _)
 revert hg ha x1 hn hgn ag hs k
 generalize (H++[MO.gen (.fresh (loB ["self","n"] [.ref s,.int n] lo0))])++[MO.list []]=H1
 generalize (H++[MO.gen (.fresh (loB ["self","n"] [.ref s,.int n] lo0))]).length=ai
 generalize H.length=gi
 intro hs k hg ha x1 hn hgn ag
 have as:ai≠s:=λq=>xE M.o λff z=>aF (hn.symm.trans (q▸z))
 have gs_:gi≠s:=λq=>xE M.o λff z=>aF (hgn.symm.trans (q▸z))
 have ao:oc≠aa ai:=λq=>by
  cases M with
  |fresh=>exact aF q
  |kept h hf hc=>refine cyS q λzq=>?_;subst zq;exact aF (hn.symm.trans hc)
 have D:∀ {H':MH}{c it cd:Nat},G1 X H1 H' gi s oc (cQ n W) c it cd->CG ob X H H' s oc (cQ n W) c ai ([]:ae (Nat×β)):=λ{H' c it cd} G=>by
  have oc':oc=aa c\/(oc=none/\H[c]? =none):=G.oc.imp id λq=>⟨q.1,x1.no q.2⟩
  have ac:ai≠c:=by
   rcases G.oc with q |q
   ·exact λz=>ao (z▸q)
   ·exact λz=>aF (q.2.symm.trans (z▸ha))
  exact⟨λr m q1 q2 e=>G.kp _ _ (λq=>aF (hgn.symm.trans (q▸e))) q1 q2 (x1 _ _ e),λq m e=>G.ks q m (x1 _ _ e),G.st,oc',G.kp _ _ ag as ao ha,λp hp=>bw hp dt,List.nodup_nil,ac⟩
 refine⟨(groups n W).length+1,qK X (M.hx x1) ll hg (λ{H' c it cd} e G=>k (D G) (by refine rwL e ?_;rfl)) λ{H' r g gs c it cd} e G hr fr G2 hm a=>?_⟩
 have d:=D G
 have acd:ai≠cd:=by
  rcases G.cdn with q |q
  ·exact rwL q d.ac
  ·exact λz=>aF (q.symm.trans (z▸ha))
 have S:CGg ob X H H' n s oc (cQ n W) c ai gi it cd gs ([]:ae (Nat×β)):=⟨d,G2,G.ic,G.ig,G.gc,G.is_,G.io,G.go,gs_,ag,λz=>aF (G.itn.symm.trans (z▸ha)),acd,hn,hgn,x1.no G.itn,hm,λp hp=>bw hp dt⟩
 rw[e]at hs k gl
 have eN:(groups n W).length=gs.length+1:=by refine rwL e ?_;rfl
 exact rwL eN (yN (done:=[]) hs S hr i0 rfl gl rfl λ{lo' H3 ps'} i' S3 e3=>cg_run (P:=λa H2=>Q (.ref ai) H2) gl hs (λ{lo' H3 ps'} c e=>k c e) gs (done:=[g]) S3 i' rfl e3)
def oG(g:ae Op):ae V:=g.map Op.v
theorem lg_run(al:all.length<10000)(k:∀ {H3 ps'},CG oG X H H3 s oc W' c ai ps'->ps'.map Prod.snd=all->P H3):∀ (gs:ae (ae Op)){done:ae (ae Op)}{ps:ae (Nat×ae Op)}{H':MH},CGg oG X H H' n s oc W' c ai gi it cd gs ps->done++gs=all->ps.map Prod.snd=done->f9 (hI X.gc 6 X.gv) ai (gs.length+1) gi H' P:=λgs=>by
 induction gs with
 |nil=>
  intro done ps H' S ea ed
  exact lD X S.G S.ic S.ig S.gc (λ{H2} q k2=>k (CG.ke S k2) (by rw[ed,<-ea,cw])) λ{H2 r g gs'} e=>nomatch e
 |cons g0 gs ih=>
  intro done ps H' S ea ed
  refine lD X S.G S.ic S.ig S.gc (λ{H2} e q=>nomatch e) λ{H2 r g gs'} e k2 hr fr G2 hm=>?_
  cases e
  have S2:CGg oG X H H2 n s oc W' c ai gi it cd gs ps:=⟨CG.ke S k2,G2,S.ic,S.ig,S.gc,S.is_,S.io,S.go,S.gs_,S.ag,S.ai_,S.acd,S.hn,S.hg,S.hi,hm,S.dg⟩
  refine Lf.mk (eX S2.cg.h) ⟨?_,ih (done:=done++[g0]) (S.put2 (b:=g0) S2 hr fr) (by rw[bn];exact ea) (by refine rwL au (rwL ed ?_);rfl)⟩
  rw[ar]
  have e1:=ei List.length ed
  have e2:=ei List.length ea
  rw[ar]at e1
  rw[af,di]at e2
  exact Yc0 al e1 e2
theorem t8(M:Mst X H s W oc)(ll:W.length<=200)(gl:(groups n W).length<10000)(k:∀ {H' c ai ps},CG oG X H H' s oc (cQ n W) c ai ps->ps.map Prod.snd=groups n W->H[ai]? =none->Q (.ref ai) H'):dD (hI X.gc 6 λL=>X.gv L) (λi=>i) [.ref H.length] (H++[MO.gen (.fresh (loB ["self","n"] [.ref s,.int n] lo0))]) Q:=by
 have g:=xS (aV H (.gen (.fresh (loB ["self","n"] [.ref s,.int n] lo0))))
 have e:isG (H++[MO.gen (.fresh (loB ["self","n"] [.ref s,.int n] lo0))]) [.ref H.length]=aa H.length:=by
  show((H++[MO.gen (.fresh (loB ["self","n"] [.ref s,.int n] lo0))])[H.length]?.bind MO.gn).map _=_
  refine rwL g ?_;rfl
 unfold dD
 refine rwL e ?_
 clear e g
 have hg:((H++[MO.gen (.fresh (loB ["self","n"] [.ref s,.int n] lo0))])++[MO.list []])[H.length]? =aa (.gen (.fresh (loB ["self","n"] [.ref s,.int n] lo0))):=Hx.app _ _ _ _ (aV H (MO.gen (.fresh (loB ["self","n"] [.ref s,.int n] lo0))))
 have ha:=aV (H++[MO.gen (.fresh (loB ["self","n"] [.ref s,.int n] lo0))]) (MO.list [])
 have x1:Hx H ((H++[MO.gen (.fresh (loB ["self","n"] [.ref s,.int n] lo0))])++[MO.list []]):=(Hx.app _ _).trans (.app _ _)
 have hn:H[(H++[MO.gen (.fresh (loB ["self","n"] [.ref s,.int n] lo0))]).length]? =none:=(Hx.app H [MO.gen (.fresh (loB ["self","n"] [.ref s,.int n] lo0))]).fresh
 have hgn:=aM H
 have ag:(H++[MO.gen (.fresh (loB ["self","n"] [.ref s,.int n] lo0))]).length≠H.length:=rwL af (uc _)
 show ∃ N,f9 (hI X.gc 6 X.gv) (H++[MO.gen (.fresh (loB ["self","n"] [.ref s,.int n] lo0))]).length N H.length ((H++[MO.gen (.fresh (loB ["self","n"] [.ref s,.int n] lo0))])++[MO.list []]) λH'=>Q (.ref (H++[MO.gen (.fresh (loB ["self","n"] [.ref s,.int n] lo0))]).length) H'
 revert hg ha x1 hn hgn ag
 generalize (H++[MO.gen (.fresh (loB ["self","n"] [.ref s,.int n] lo0))])++[MO.list []]=H1
 generalize (H++[MO.gen (.fresh (loB ["self","n"] [.ref s,.int n] lo0))]).length=ai
 generalize H.length=gi
 intro hg ha x1 hn hgn ag
 have as:ai≠s:=λq=>xE M.o λff z=>aF (hn.symm.trans (q▸z))
 have gs_:gi≠s:=λq=>xE M.o λff z=>aF (hgn.symm.trans (q▸z))
 have ao:oc≠aa ai:=λq=>by
  cases M with
  |fresh=>exact aF q
  |kept h hf hc=>refine cyS q λzq=>?_;subst zq;exact aF (hn.symm.trans hc)
 have D:∀ {H':MH}{c it cd:Nat},G1 X H1 H' gi s oc (cQ n W) c it cd->CG oG X H H' s oc (cQ n W) c ai ([]:ae (Nat×ae Op)):=λ{H' c it cd} G=>by
  have oc':oc=aa c\/(oc=none/\H[c]? =none):=G.oc.imp id λq=>⟨q.1,x1.no q.2⟩
  have ac:ai≠c:=by
   rcases G.oc with q |q
   ·exact λz=>ao (z▸q)
   ·exact λz=>aF (q.2.symm.trans (z▸ha))
  exact⟨λr m q1 q2 e=>G.kp _ _ (λq=>aF (hgn.symm.trans (q▸e))) q1 q2 (x1 _ _ e),λq m e=>G.ks q m (x1 _ _ e),G.st,oc',G.kp _ _ ag as ao ha,λp hp=>bw hp dt,List.nodup_nil,ac⟩
 refine⟨(groups n W).length+1,qK X (M.hx x1) ll hg (λ{H' c it cd} e G=>k (D G) (by refine rwL e ?_;rfl) hn) λ{H' r g gs c it cd} e G hr fr G2 hm nn=>?_⟩
 have d:=D G
 have acd:ai≠cd:=by
  rcases G.cdn with q |q
  ·exact rwL q d.ac
  ·exact λz=>aF (q.symm.trans (z▸ha))
 have ait:ai≠it:=λz=>aF (G.itn.symm.trans (z▸ha))
 have ra:r≠ai:=λz=>aF (fr.symm.trans (z▸ha))
 have rg:r≠gi:=λz=>aF (fr.symm.trans (z▸hg))
 rw[e]at k gl
 refine rwL e (Lf.mk (eX d.h) ⟨by decide,lg_run X (n:=n) gl (λ{H3 ps'} c e=>k c e hn) gs (done:=[g]) (ps:=[(r,g)]) ⟨⟨λy m q1 q2 e=>aE (d.kp _ _ q1 q2 e) λq=>aF (hn.symm.trans (q▸e)),λq m e=>aE (d.ks q m e) as,d.st.ke λy m q e=>aE e ?_,d.oc,aK d.h _,λp hp=>?_,jg _ _,d.ac⟩,G2.to λy m q e=>aE e ?_,G.ic,G.ig,G.gc,G.is_,G.io,G.go,gs_,ag,ait,acd,hn,hgn,x1.no G.itn,hm.imp λa z=>aE z ait,λp hp=>?_⟩ rfl rfl⟩)
 ·rcases q with rfl |rfl
  ·exact as
  ·exact d.ac
 ·exact rwL (cq.mp hp) ⟨aE hr ra.symm,x1.no fr,ra,nn.1⟩
 ·rcases q with rfl |rfl |rfl
  ·exact ag
  ·exact ait
  ·exact acd
 ·exact rwL (cq.mp hp) ⟨rg,nn.2⟩
structure Ch where
 p:Nat
 a:Nat
 b:Nat
 A:ae Int
 B:ae Int
def Ch.ad(c:Ch):ae Nat:=[c.p,c.a,c.b]
def Ch.v(c:Ch):V:=.ref c.p
def iL_(l:ae Int):ae V:=l.map V.int
def adr(rc rb:Nat)(cs:ae Ch)(bs:ae (Nat×ae Int)):ae Nat:=rc::rb::(cs.flatMap Ch.ad++bs.map Prod.fst)
structure CB(B:MH)(rc rb:Nat)(cs:ae Ch)(bs:ae (Nat×ae Int))(H:MH):Prop where
 hx:Hx B H
 h:H[rc]? =aa (.list (cs.map Ch.v))
 hb:H[rb]? =aa (.list (bs.map rv))
 hc:∀ c∈cs,H[c.p]? =aa (.list [.ref c.a,.ref c.b])/\H[c.a]? =aa (.list (c.A.map V.int))/\H[c.b]? =aa (.list (c.B.map V.int))
 hs:HB iL_ H bs
 nd:(adr rc rb cs bs).Nodup
 fr:∀ x∈adr rc rb cs bs,B[x]? =none
theorem cN{α:Type}{u v:ae α}{x:α}(h:(u++x::v).Nodup):∀ y∈u++v,y≠x:=λy hy e=>by
 subst e
 rw[si]at h
 rcases cu.mp hy with hy |hy
 ·exact h.2.2 y hy y be rfl
 ·exact(wc.mp h.2.1).1 hy
theorem CB.at(D:CB B rc rb cs bs H)(hx:x∈adr rc rb cs bs):Hx B (H.set x m):=D.hx.set (D.fr x hx)
theorem aE2:adr rc rb (l++c::r) bs=(rc::rb::(l.flatMap Ch.ad++[c.p]))++c.a::(c.b::(r.flatMap Ch.ad++bs.map Prod.fst)):=by
 unfold adr
 refine rwL kj (rwL qa ?_)
 show rc::rb::((l.flatMap Ch.ad++([c.p,c.a,c.b]++r.flatMap Ch.ad))++bs.map Prod.fst)=_
 simp only[bn,jw,kn]
theorem adr_b:adr rc rb (l++c::r) bs=(rc::rb::(l.flatMap Ch.ad++[c.p,c.a]))++c.b::(r.flatMap Ch.ad++bs.map Prod.fst):=by
 refine rwL aE2 ?_
 simp only[bn,jw,kn]
theorem aE1(h:c'.ad=c.ad):adr rc rb (l++c'::r) bs=adr rc rb (l++c::r) bs:=by
 unfold adr
 exact rwL kj (rwL kj (rwL qa (rwL qa (rwL h rfl))))
theorem lU{l:ae Ch}(hd:d∈l)(hx:x∈d.ad):x∈l.flatMap Ch.ad:=uw.mpr ⟨d,hd,hx⟩
theorem CB.setA(D:CB B rc rb (l++c::r) bs H)(A':ae Int):CB B rc rb (l++({c with A:=A'}:Ch)::r) bs (H.set c.a (.list (A'.map V.int))):=by
 have nd:=D.nd
 rw[aE2]at nd
 have ne:=cN nd
 have mc:c∈l++c::r:=bg _ be
 have hc:=D.hc c mc
 have e:adr rc rb (l++({c with A:=A'}:Ch)::r) bs=adr rc rb (l++c::r) bs:=aE1 rfl
 have old:∀ d∈l++r,d.p≠c.a/\d.a≠c.a/\d.b≠c.a:=λd hd=>by
  have m:∀ x∈d.ad,x≠c.a:=λx hx=>by
   rcases cu.mp hd with hd |hd
   ·have:=lU hd hx
    exact ne x (by simp [this])
   ·have:=lU hd hx
    exact ne x (by simp [this])
  exact⟨m _ (by simp [Ch.ad]),m _ (by simp [Ch.ad]),m _ (by simp [Ch.ad])⟩
 refine⟨D.at (by refine rwL aE2 ?_;simp),?_,aE D.hb (ne rb (by simp)).symm,λd hd=>?_,λs hs=>aE (D.hs s hs) (ne s.1 ?_).symm,rwL e D.nd,rwL e D.fr⟩
 ·have h:=D.h
  rw[au,fp]at h ⊢
  exact aE h (ne rc (by simp)).symm
 ·rcases cu.mp hd with hd |hd
  ·have o:=old d (cz _ hd)
   have h:=D.hc d (cz _ hd)
   exact⟨aE h.1 o.1.symm,aE h.2.1 o.2.1.symm,aE h.2.2 o.2.2.symm⟩
  ·rcases cy.mp hd with rfl |hd
   ·exact⟨aE hc.1 (ne c.p (by simp)).symm,aK hc.2.1 _,aE hc.2.2 (ne c.b (by simp)).symm⟩
   ·have o:=old d (bg _ hd)
    have h:=D.hc d (bg _ (bq _ hd))
    exact⟨aE h.1 o.1.symm,aE h.2.1 o.2.1.symm,aE h.2.2 o.2.2.symm⟩
 ·have:s.1∈bs.map Prod.fst:=ly hs
  simp only[cu,cy]
  exact .inr (.inr (.inr this))
theorem CB.setB(D:CB B rc rb (l++c::r) bs H)(B':ae Int):CB B rc rb (l++({c with B:=B'}:Ch)::r) bs (H.set c.b (.list (B'.map V.int))):=by
 have nd:=D.nd
 rw[adr_b]at nd
 have ne:=cN nd
 have mc:c∈l++c::r:=bg _ be
 have hc:=D.hc c mc
 have e:adr rc rb (l++({c with B:=B'}:Ch)::r) bs=adr rc rb (l++c::r) bs:=aE1 rfl
 have old:∀ d∈l++r,d.p≠c.b/\d.a≠c.b/\d.b≠c.b:=λd hd=>by
  have m:∀ x∈d.ad,x≠c.b:=λx hx=>by
   rcases cu.mp hd with hd |hd
   ·have:=lU hd hx
    exact ne x (by simp [this])
   ·have:=lU hd hx
    exact ne x (by simp [this])
  exact⟨m _ (by simp [Ch.ad]),m _ (by simp [Ch.ad]),m _ (by simp [Ch.ad])⟩
 refine⟨D.at (by refine rwL adr_b ?_;simp),?_,aE D.hb (ne rb (by simp)).symm,λd hd=>?_,λs hs=>aE (D.hs s hs) (ne s.1 ?_).symm,rwL e D.nd,rwL e D.fr⟩
 ·have h:=D.h
  rw[au,fp]at h ⊢
  exact aE h (ne rc (by simp)).symm
 ·rcases cu.mp hd with hd |hd
  ·have o:=old d (cz _ hd)
   have h:=D.hc d (cz _ hd)
   exact⟨aE h.1 o.1.symm,aE h.2.1 o.2.1.symm,aE h.2.2 o.2.2.symm⟩
  ·rcases cy.mp hd with rfl |hd
   ·exact⟨aE hc.1 (ne c.p (by simp)).symm,aE hc.2.1 (ne c.a (by simp)).symm,aK hc.2.2 _⟩
   ·have o:=old d (bg _ hd)
    have h:=D.hc d (bg _ (bq _ hd))
    exact⟨aE h.1 o.1.symm,aE h.2.1 o.2.1.symm,aE h.2.2 o.2.2.symm⟩
 ·have:s.1∈bs.map Prod.fst:=ly hs
  simp only[cu,cy]
  exact .inr (.inr this)
theorem CB.hxx(D:CB B rc rb cs bs H)(x:Hx H H'):CB B rc rb cs bs H':=⟨D.hx.trans x,x _ _ D.h,x _ _ D.hb,λc hc=>⟨x _ _ (D.hc c hc).1,x _ _ (D.hc c hc).2.1,x _ _ (D.hc c hc).2.2⟩,D.hs.hx x,D.nd,D.fr⟩
theorem CB.is(D:CB B rc rb cs bs H):∀ x∈adr rc rb cs bs,∃ m,H[x]? =aa m:=λx hx=>by
 unfold adr at hx
 rcases cy.mp hx with rfl |hx
 ·exact⟨_,D.h⟩
 rcases cy.mp hx with rfl |hx
 ·exact⟨_,D.hb⟩
 rcases cu.mp hx with hx |hx
 ·refine xEA (uw.mp hx) λd hd hx=>?_
  have h:=D.hc d hd
  rcases cy.mp hx with rfl |hx
  ·exact⟨_,h.1⟩
  rcases cy.mp hx with rfl |hx
  ·exact⟨_,h.2.1⟩
  ·exact rwL (cq.mp hx) ⟨_,h.2.2⟩
 ·obtain⟨s,hs,rfl⟩:=nu.mp hx
  exact⟨_,D.hs s hs⟩
theorem CB.newS(D:CB B rc rb cs bs H)(x:Hx H H')(hq:H'[q]? =aa (.list (S.map V.int)))(f:H[q]? =none):CB B rc rb cs (bs++[(q,S)]) (H'.set rb (.list (bs.map rv++[.ref q]))):=by
 have D':=D.hxx x
 have ne:∀ y∈adr rc rb cs bs,y≠q:=λy hy e=>by
  obtain⟨m,h⟩:=D.is y hy
  exact aF (f.symm.trans (e▸h))
 have nr:∀ y∈ [rc]++(cs.flatMap Ch.ad++bs.map Prod.fst),y≠rb:=cN (u:=[rc]) D.nd
 refine⟨D'.at (by simp [adr]),aE D'.h (nr rc (by simp)).symm,rwL au (aK D'.hb _),λc hc=>?_,λs hs=>?_,?_,λy hy=>?_⟩
 ·have h:=D'.hc c hc
  have m:∀ x∈c.ad,x≠rb:=λx hx=>nr x (by simp [lU hc hx])
  exact⟨aE h.1 (m _ (by simp [Ch.ad])).symm,aE h.2.1 (m _ (by simp [Ch.ad])).symm,aE h.2.2 (m _ (by simp [Ch.ad])).symm⟩
 ·rcases cu.mp hs with hs |hs
  ·exact aE (D'.hs s hs) (nr s.1 (by
    have:s.1∈bs.map Prod.fst:=ly hs
    exact bg _ (bg _ this))).symm
  ·exact rwL (cq.mp hs) (aE hq (ne rb (by simp [adr])))
 ·have:adr rc rb cs (bs++[(q,S)])=adr rc rb cs bs++[q]:=by
   unfold adr
   rw[au,jw,jw,bn];rfl
  rw[this,si]
  exact⟨D.nd,jg _ _,λy hy z hz=>rwL (cq.mp hz) (ne y hy)⟩
 ·have:adr rc rb cs (bs++[(q,S)])=adr rc rb cs bs++[q]:=by
   unfold adr
   rw[au,jw,jw,bn];rfl
  rw[this]at hy
  rcases cu.mp hy with hy |hy
  ·exact D.fr y hy
  ·exact rwL (cq.mp hy) (D.hx.no f)
theorem CB.newC(D:CB B rc rb cs bs H)(x:Hx H H')(h1:H'[d.p]? =aa (.list [.ref d.a,.ref d.b]))(h2:H'[d.a]? =aa (.list (d.A.map V.int)))(h3:H'[d.b]? =aa (.list (d.B.map V.int)))(f:∀ y∈d.ad,H[y]? =none)(nd:d.ad.Nodup):CB B rc rb (cs++[d]) bs (H'.set rc (.list (cs.map Ch.v++[.ref d.p]))):=by
 have D':=D.hxx x
 have ne:∀ y∈adr rc rb cs bs,∀ z∈d.ad,y≠z:=λy hy z hz e=>by
  obtain⟨m,h⟩:=D.is y hy
  exact aF ((f z hz).symm.trans (e▸h))
 have nr:∀ y∈ []++(rb::(cs.flatMap Ch.ad++bs.map Prod.fst)),y≠rc:=cN (u:=[]) D.nd
 have rcm:rc∈adr rc rb cs bs:=by simp [adr]
 refine⟨D'.at (by simp [adr]),rwL au (aK D'.h _),aE D'.hb (nr rb (by simp)).symm,λc hc=>?_,λs hs=>?_,?_,λy hy=>?_⟩
 ·rcases cu.mp hc with hc |hc
  ·have h:=D'.hc c hc
   have m:∀ x∈c.ad,x≠rc:=λx hx=>nr x (by simp [lU hc hx])
   exact⟨aE h.1 (m _ (by simp [Ch.ad])).symm,aE h.2.1 (m _ (by simp [Ch.ad])).symm,aE h.2.2 (m _ (by simp [Ch.ad])).symm⟩
  ·exact rwL (cq.mp hc) ⟨aE h1 (ne rc rcm _ (by simp [Ch.ad])),aE h2 (ne rc rcm _ (by simp [Ch.ad])),aE h3 (ne rc rcm _ (by simp [Ch.ad]))⟩
 ·exact aE (D'.hs s hs) (nr s.1 (by
   have:s.1∈bs.map Prod.fst:=ly hs
   exact bq _ (bg _ this))).symm
 ·have:(adr rc rb cs bs++d.ad).Nodup:=by
   rw[si]
   exact⟨D.nd,nd,ne⟩
  have p:(adr rc rb (cs++[d]) bs).Perm (adr rc rb cs bs++d.ad):=by
   unfold adr
   refine rwL kj (.cons _ (.cons _ ?_))
   rw[List.flatMap_singleton,bn]
   show List.Perm _ ((cs.flatMap Ch.ad++bs.map Prod.fst)++d.ad)
   rw[bn]
   exact .append_left _ List.perm_append_comm
  exact p.nodup_iff.mpr this
 ·have:y∈adr rc rb cs bs++d.ad:=by
   unfold adr at hy ⊢
   rw[kj,List.flatMap_singleton]at hy
   simp only[cu,cy]at hy ⊢
   rcases hy with h |h | (h |h) |h
   ·exact .inl (.inl h)
   ·exact .inl (.inr (.inl h))
   ·exact .inl (.inr (.inr (.inl h)))
   ·exact .inr h
   ·exact .inl (.inr (.inr (.inr h)))
  rcases cu.mp this with hy |hy
  ·exact D.fr y hy
  ·exact D.hx.no (f y hy)
theorem pM(hf:∀ {Q:EK},Q (.ref r) H->f lo H Q)(h:H[r]? =aa (.list vs))(q:g lo H (appK r lo K)):aW (b9 f g) lo H K:=hf (Lf.mk rfl ⟨⟨_,h⟩,q⟩)
theorem aC1:oIn not (.int z) (.tup [.int p,.int q]) H=aa (.bool (!([PyData.int p,PyData.int q].any λy=>PyData.eqv y (.int z))),H):=by rfl'
theorem tY(h: -1000000000<x/\x<1000000000):lT (.int x) (.int y) H=aa (.int (x*y),H):=bo (ay h)
theorem lt_e:bA (λx y=>decide (x<y)) (.int x) (.int y) H=aa (.bool (decide (x<y)),H):=rfl
theorem gt_e:bA (λx y=>decide (x>y)) (.int x) (.int y) H=aa (.bool (decide (x>y)),H):=rfl
theorem le_e:bA (λx y=>decide (x<=y)) (.int x) (.int y) H=aa (.bool (decide (x<=y)),H):=rfl
theorem wX{b:fq}(hf:∀ R:fq->MH->Prop,R b H->f lo H R)(hg:∀ R:fq->MH->Prop,R c H->g lo H R)(q:P (b && c) H):aZ f (aZ g (tK ak)) lo H P:=by
 refine hf (λb H1=>bif b then _ else _) ?_
 cases b with
 |false=>exact q
 |true=>
  refine hg (λb H1=>bif b then _ else _) ?_
  cases c with
  |false=>exact q
  |true=>exact q
theorem turn_t(hT:∀ R:fq->MH->Prop,R c H->T (upd lo x v) H R)(q:bif c then(E (upd lo x v) H λw H1=>Lf (H1[ai]?.bind MO.own) λvs=>vs.length<1000000/\P (upd lo x v) (H1.set ai (.list (vs++[w])))) else P (upd lo x v) H):fW (aN x) (aZ T (tK ak)) (cD E ai) v lo H P:=by
 refine hT (λb H1=>bif b then _ else _) ?_
 cases c with
 |false=>exact q
 |true=>exact q
def szc(cs:ae Ch):Nat:=(cs.map λc=>c.A.length).sum
def szd(cs:ae Ch):Nat:=(cs.map λc=>c.B.length).sum
theorem fA(l r:ae Ch):szd (l++r)=szd l+szd r:=by
 unfold szd
 exact rwL au (rwL List.sum_append rfl)
theorem nW(c:Ch):szd [c]=c.B.length:=rfl
theorem gO(l r:ae Ch):szc (l++r)=szc l+szc r:=by
 unfold szc
 exact rwL au (rwL List.sum_append rfl)
theorem qD(c:Ch):szc [c]=c.A.length:=rfl
structure CI1(k:Int)(c:Ch):Prop where
 a:∃ A',c.A=(10*k+8)::A'/\∀ v∈A',10*k<=v/\v<=10*k+2
 b:∀ v∈c.B,10*k<=v/\v<=10*k+2
structure CIn(cs:ae Ch)(bs:ae (Nat×ae Int))(t:Nat):Prop where
 n:cs.length=bs.length+1
 n5:cs.length<=5
 c:∀ (k:Nat) c,cs[k]? =aa c->CI1 k c
 s:∀ (k:Nat) s,bs[k]? =aa s->0<s.2.length/\s.2.length<=17/\∀ v∈s.2,1000+20*(k:Int)<=v/\v<1020+20*(k:Int)
 sz:szc cs<=cs.length+t
 sd:szd cs<=cs.length+t
theorem xT{α:Type}{l r:ae α}{c d:α}(h:(l++c::r)[k]? =aa d):(k=l.length/\d=c)\/(k≠l.length/\∀ c',(l++c'::r)[k]? =aa d):=by
 by_cases q:k=l.length
 ·subst q
  rw[dh (Nat.le_refl _),mz]at h
  exact cxS h (.inl ⟨rfl,rfl⟩)
 ·refine .inr ⟨q,λc'=>?_⟩
  by_cases q2:k<l.length
  ·rw[eo q2]at h ⊢;exact h
  ·rw[dh (by omega)]at h ⊢
   obtain⟨m,e⟩:∃ m,k-l.length=m+1:=⟨k-l.length-1,Yc176 q q2⟩
   rw[e,List.getElem?_cons_succ]at h ⊢
   exact h
theorem CIn.last{c:Ch}(I:CIn (l++[c]) bs t)(h:CI1 l.length c')(z:c'.A.length+t<=c.A.length+t')(z2:c'.B.length+t<=c.B.length+t'):CIn (l++[c']) bs t':=by
 have sz:=I.sz
 have sd:=I.sd
 have n:=I.n
 have n5:=I.n5
 rw[gO,qD,af,az]at sz
 rw[fA,nW,af,az]at sd
 rw[af,az]at n n5
 refine⟨by exact rwL af (rwL az n),by exact rwL af (rwL az n5),λk d hd=>?_,I.s,by rw[gO,qD,af,az];exact Yc175 z sz,by rw[fA,nW,af,az];exact Yc175 z2 sd⟩
 rcases xT (r:=[]) hd with ⟨rfl,rfl⟩ |⟨_,q⟩
 ·exact h
 ·exact I.c k d (q c)
theorem CIn.lst{c:Ch}(I:CIn (l++[c]) bs t):CI1 l.length c:=I.c l.length c (by rw[dh (Nat.le_refl _),mz];rfl)
theorem CIn.new{s:Nat×ae Int}(I:CIn cs bs t)(n4:cs.length<5)(hd:CI1 cs.length d)(dz:d.A.length<=1/\d.B.length<=1)(hs:0<s.2.length/\s.2.length<=17/\∀ v∈s.2,1000+20*(((cs.length:Int)-1))<=v/\v<1020+20*((cs.length:Int)-1)):CIn (cs++[d]) (bs++[s]) (t+1):=by
 have sz:=I.sz
 have sd:=I.sd
 have n:=I.n
 refine⟨by rw[af,af,az,az];exact Yc174 n,by exact rwL af (rwL az (Yc173 n4)),λk e he=>?_,λk e he=>?_,by rw[gO,qD,af,az];exact Yc172 dz sz,by rw[fA,nW,af,az];exact Yc171 dz sd⟩
 ·by_cases q:k<cs.length
  ·rw[eo q]at he
   exact I.c k e he
  ·rw[dh (aFa q)]at he
   have hl:=(List.getElem?_eq_some_iff.mp he).1
   rw[az]at hl
   have e0:k=cs.length:=Yc169 q hl
   rw[e0,mz]at he
   exact cxS he (rwL e0 hd)
 ·by_cases q:k<bs.length
  ·rw[eo q]at he
   exact I.s k e he
  ·rw[dh (aFa q)]at he
   have hl:=(List.getElem?_eq_some_iff.mp he).1
   rw[az]at hl
   have e0:k=bs.length:=Yc169 q hl
   rw[e0,mz]at he
   refine cxS he ?_
   have:(cs.length:Int)-1=(k:Int):=Yc168 n e0
   rw[this]at hs
   exact hs
def cF(rc rb:Nat):ae (Str×V):=[("chapters",.ref rc),("between",.ref rb)]
def cK:SF:=(aY "k" (aA cP (aL bY (esC (eN "chapters") esN)) (eK (.int 1))))
def cIt:SF:=(aY "item" (aA aH (aA lT (eK (.int 10)) (eN "k")) (aA kV (aA tU (eN "x") (eK (.int 8))) (eK (.int 3)))))
def cT:TF:=(aZ (tE (aA (bG id) (aA kV (eN "x") (eK (.int 8))) (eK (.int 7)))) (aZ (tE (aA (bA λx y=>decide (x<y)) (eN "k") (eK (.int 4)))) (tK ak)))
def cSt:EF:=(fK (hF C) [".0","t"] (iR (aL cY (esC (aA aH (eK (.int 1)) (aA kV (aA tU (eN "x") (eK (.int 8))) (eK (.int 17)))) esN))) (aN "t") (tK ak) (cD (aA aH (aA aH (eK (.int 1000)) (aA lT (eK (.int 20)) (eN "k"))) (eN "t"))))
def cNw(C:Cx):SF:=(aB (aW (b9 (eN "between") (cSt (C:=C)))) (aB (aW (b9 (eN "chapters") (bU (esC (bU (esC (aA aH (aA lT (eK (.int 10)) (eN "k")) (eK (.int 18))) esN)) (esC (bU esN) esN))))) (sK .next)))
def cPut(p q i:Int):SF:=(sIf (tE (aA (oIn not) (aA kV (eN "x") (eK (.int 8))) (bE (esC (eK (.int p)) (esC (eK (.int q)) esN))))) (aB (aW (b9 (aA aQ (aA aQ (eN "chapters") (eN "k")) (eK (.int i))) (eN "item"))) (sK .next)) (sK .next))
def cB(C:Cx):SF:=(aB cK (aB cIt (aB (sIf cT (cNw C) (aB (cPut 2 3 0) (aB (cPut 0 1 1) (sK .next)))) (sK .next))))
theorem wH:hM X=g8 (bZ C) (iL (eN "numbers")) (aN "x") (cB C):=rfl
theorem aB2(h:vs.length<1000000)(q:Q (.ref H.length) (H++[.list vs])):Lp (mkL vs H) Q:=Lp.mk (v:=.ref H.length) (H:=H++[.list vs]) (by unfold mkL;exact bo h) q
theorem eL_i(h:g lo H λvs H1=>Lp (mkL vs H1) Q):bU g lo H Q:=h
theorem cSt_i{k:Nat}(hx:lo "x" =aa (.int x))(hk:lo "k" =aa (.int k))(k0:k<100)(q:∀ {H'},Hx H H'->H'[H.length]? =aa (.list (((List.range (1+x/8%17).toNat).map λt:Nat=>1000+20*(k:Int)+t).map V.int))->R (.ref H.length) H'):cSt (C:=C) lo H R:=by
 have m3:x/8%17<17:=Int.emod_lt_of_pos _ (by decide)
 have m0:0<=x/8%17:=vg _ (by decide)
 have ef:((List.range (1+x/8%17).toNat).flatMap λt:Nat=>[V.int (1000+20*(k:Int)+t)])=((List.range (1+x/8%17).toNat).map λt:Nat=>1000+20*(k:Int)+t).map V.int:=by
  rw[uL,zg];rfl
 refine pJ nv (λt:Nat=>[V.int (1000+20*(k:Int)+t)]) (λlo=>lo "k" =aa (.int k)) (List.range (1+x/8%17).toNat) (it:=(0,(1+x/8%17).toNat,1)) (λ{P} q=>iR1_i (z:=1+x/8%17) (Yc201 zzN zzL) (.bin .k (.bin (.bin (.n hx) .k (aD6 (by decide))) .k (oH (by decide))) aE3) q) (by rw[<-aBj];exact xM _ _) ((show hide [".0","t"] lo "k" =lo "k" by rfl').trans hk) (by rw[ef,ar,ar,ri];exact Yc200 zzN zzL) (λz hz=>⟨λ{lo1 H1 acc P} i hx ha hal kk=>?_⟩) λ{H'} hx h'=>q hx (by exact rwL h' (rwL ef rfl))
 have i2:upd lo1 "t" (nv z) "k" =aa (.int k):=(show upd lo1 "t" (nv z) "k" =lo1 "k" by rfl').trans i
 exact tB (aI (aI (bK (aI (bK (aP i2 (Lp.mk (tY Yc199) (hV (aP fJ (hV (put1 (P:=P) (I:=λlo=>lo "k" =aa (.int k)) (aM H) hx ha hal rfl i2 kk)))))))))))
def kF(rc rb:Nat)(x:Int)(k:Nat)(it:Int):ae (Str×V):=[("item",.int it),("k",.int k),("x",.int x),("chapters",.ref rc),("between",.ref rb)]
theorem aEy(h:H[rc]? =aa (.list ((l++c::r).map Ch.v)))(hl:l.length<1000):aQ (.ref rc) (.int l.length) H=aa (c.v,H):=eZ (v:=c.v) h (Yc198 hl) (cI Yc59 (by rw[ar,af,di];exact Yc197)) (by rw[mr,au,fp,dh (by rw[ar];exact Nat.le_refl _),ar,mz];rfl)
theorem cPutA(G:Fs (kF rc rb x k it) lo)(D:CB B rc rb (l++[c]) bs H)(ek:k=l.length)(kl:k<1000)(cl:c.A.length<1000)(q:∀ {H' A'},(A'=c.A\/A'=c.A++[it])->CB B rc rb (l++[({c with A:=A'}:Ch)]) bs H'->K .next lo H'):cPut 2 3 0 lo H K:=by
 refine kT (lL (aI (aI (aP (G _ (.int x) ⋯) (bK (Lp.mk (oH (by decide)) (fP (aJ (bK (aJ (bK (bD ⟨(show 2<100 by decide),Lp.mk aC1 (Lf.mk rfl ?_)⟩))))))))))))
 cases !([PyData.int 2,PyData.int 3].any λy=>PyData.eqv y (.int (x%8))) with
 |false=>exact bT (q (A':=c.A) (.inl rfl) D)
 |true=>
  have hc:=D.hc c (bg _ be)
  have h1:=aEy D.h (Yc196 ek kl)
  rw[<-ek]at h1
  refine b3 (aO (pM (λqq=>aI (aI (aP (G _ (.ref rc) ⋯) (aP (G _ (.int k) ⋯) (Lp.mk h1 (bK (Lp.mk (eZ (v:=.ref c.a) hc.1 (by decide) (mB _) rfl) qq))))))) hc.2.1 (aP (G _ (.int it) ⋯) (jL hc.2.1 (by rw[ar];exact pO cl) (aS (q (A':=c.A++[it]) (.inr rfl) ?_))))))
  have:=D.setA (r:=[]) (c.A++[it])
  rw[au]at this
  exact this
theorem cPutB(G:Fs (kF rc rb x k it) lo)(D:CB B rc rb (l++[c]) bs H)(ek:k=l.length)(kl:k<1000)(cl:c.B.length<1000)(q:∀ {H' B'},(B'=c.B\/B'=c.B++[it])->CB B rc rb (l++[({c with B:=B'}:Ch)]) bs H'->K .next lo H'):cPut 0 1 1 lo H K:=by
 refine kT (lL (aI (aI (aP (G _ (.int x) ⋯) (bK (Lp.mk (oH (by decide)) (fP (aJ (bK (aJ (bK (bD ⟨(show 2<100 by decide),Lp.mk aC1 (Lf.mk rfl ?_)⟩))))))))))))
 cases !([PyData.int 0,PyData.int 1].any λy=>PyData.eqv y (.int (x%8))) with
 |false=>exact bT (q (B':=c.B) (.inl rfl) D)
 |true=>
  have hc:=D.hc c (bg _ be)
  have h1:=aEy D.h (Yc196 ek kl)
  rw[<-ek]at h1
  refine b3 (aO (pM (λqq=>aI (aI (aP (G _ (.ref rc) ⋯) (aP (G _ (.int k) ⋯) (Lp.mk h1 (bK (Lp.mk (eZ (v:=.ref c.b) hc.1 (by decide) (cI (by decide) (show(1:Int)<((2:Nat):Int) by decide)) rfl) qq))))))) hc.2.2 (aP (G _ (.int it) ⋯) (jL hc.2.2 (by rw[ar];exact pO cl) (aS (q (B':=c.B++[it]) (.inr rfl) ?_))))))
  have:=D.setB (r:=[]) (c.B++[it])
  rw[au]at this
  exact this
inductive LC(B:MH)(rc rb T:Nat)(rest:ae V)(lo:Lo)(H:MH):Prop
 |mk {xs:ae Int}{cs:ae Ch}{bs:ae (Nat×ae Int)}{t:Nat} (er:rest=xs.map V.int) (F:Fs (cF rc rb) lo) (D:CB B rc rb cs bs H) (I:CIn cs bs t) (e:t+xs.length=T):LC B rc rb T rest lo H
theorem c_step(tl:T<100)(I:LC B rc rb T (v::rest) lo H)(go:GoK (LC B rc rb T rest) Q K):aN "x" v lo H λlo1 H1=>cB C lo1 H1 K:=by
 cases I with
 | @mk xs cs bs t er F D I e=>
 cases xs with
 |nil=>cases er
 |cons x xs=>
 cases er
 rw[di]at e
 have n:=I.n
 rcases jO cs with rfl |⟨l,c,rfl⟩
 ·cases n
 have n5:=I.n5
 rw[af,az]at n n5
 have sz:=I.sz
 have sd:=I.sd
 rw[gO,qD,af,az]at sz
 rw[fA,nW,af,az]at sd
 have G0:=F.cons "x" (.int x)
 refine(?_:cB C (upd lo "x" (.int x)) H K)
 revert G0
 generalize upd lo "x" (.int x)=lo1
 intro G0
 have ll:(l++[c]).length=l.length+1:=by exact rwL af (rwL az rfl)
 have lm:((l++[c]).map Ch.v).length=l.length+1:=by rw[ar,af,az]
 refine aO (eV (aI (oK (G0 _ (.ref rc) ⋯) (aR D.h) (rwL lm (Yc194 n5)) (bK (sub_i (aS (rwL lm (rwL (show ((l.length+1:Nat):Int)-1=(l.length:Nat) by exact Yc193) ?_))))))))
 have G1:=G0.cons "k" (.int (l.length:Nat))
 revert G1
 generalize upd lo1 "k" (.int (l.length:Nat))=lo2
 intro G1
 refine aO (eV (aI (aI (bK (aP (G1 _ (.int (l.length:Nat)) ⋯) (Lp.mk (tY (by decide)) (aI (aI (aP (G1 _ (.int x) ⋯) (bK (Lp.mk (aD6 (by decide)) (bK (Lp.mk (oH (by decide)) (hV (aS ?_)))))))))))))))
 have i3:x/8%3<3:=Int.emod_lt_of_pos _ (by decide)
 have i0:0<=x/8%3:=vg _ (by decide)
 have G:=G1.cons "item" (.int (10*(l.length:Nat)+x/8%3))
 revert G
 generalize upd lo2 "item" (.int (10*(l.length:Nat)+x/8%3))=lo3
 intro G
 have G':Fs (cF rc rb) lo3:=G.re _ ⋯
 have G:Fs (kF rc rb x l.length (10*(l.length:Nat)+x/8%3)) lo3:=G.re _ ⋯
 have gx:=G ("x" :Str) (.int x) ⋯
 have gk:=G ("k" :Str) (.int (l.length:Nat)) ⋯
 refine aO (kT (wX (b:=decide (x%8=7)) (c:=decide ((l.length:Int)<4)) (λR q=>lL (aI (aI (aP gx (bK (Lp.mk (oH (by decide)) (bK (Lp.mk eqI_e (Lf.mk (p:=decide (x%8=7)) rfl q))))))))) (λR q=>lL (aI (aP gk (bK (Lp.mk lt_e (Lf.mk (p:=decide ((l.length:Int)<4)) rfl q)))))) ?_))
 cases ed:decide (x%8=7) && decide ((l.length:Int)<4) with
 |true=>
  have k4:=dx (dp.mp ed).2
  have m3:x/8%17<17:=Int.emod_lt_of_pos _ (by decide)
  have m0:0<=x/8%17:=vg _ (by decide)
  refine b3 (aO (wQ (G _ (.ref rb) ⋯) D.hb (cSt_i gx gk (Yc192 k4) λ{H1} x1 h1=>jL (x1 _ _ D.hb) (by rw[ar];exact Yc191 n k4) (aS (aO ?_)))))
  have D1:=D.newS x1 h1 (aM H)
  revert D1
  generalize H1.set rb (.list (bs.map rv++[.ref H.length]))=H2
  intro D1
  refine wQ (G _ (.ref rc) ⋯) D1.h (eL_i (aJ (pH (aI (aI (bK (aP gk (Lp.mk (tY (by decide)) (bK (hV (j9 (aJ (jD (bD (aB2 (show 2<1000000 by decide) ?_)))))))))))))))
  have hx3:Hx H2 (H2++[MO.list [.int (10*(l.length:Nat)+18)]]++[MO.list []]++[MO.list [.ref H2.length,.ref (H2++[MO.list [.int (10*(l.length:Nat)+18)]]).length]]):=((Hx.app _ _).trans (.app _ _)).trans (.app _ _)
  have a1:=((Hx.app (H2++[MO.list [.int (10*(l.length:Nat)+18)]]) [MO.list []]).trans (.app _ [MO.list [.ref H2.length,.ref (H2++[MO.list [.int (10*(l.length:Nat)+18)]]).length]])) _ _ (aV H2 (MO.list [.int (10*(l.length:Nat)+18)]))
  have a2:=(Hx.app (H2++[MO.list [.int (10*(l.length:Nat)+18)]]++[MO.list []]) [MO.list [.ref H2.length,.ref (H2++[MO.list [.int (10*(l.length:Nat)+18)]]).length]]) _ _ (aV (H2++[MO.list [.int (10*(l.length:Nat)+18)]]) (MO.list []))
  have a3:=aV (H2++[MO.list [.int (10*(l.length:Nat)+18)]]++[MO.list []]) (MO.list [.ref H2.length,.ref (H2++[MO.list [.int (10*(l.length:Nat)+18)]]).length])
  have l1:(H2++[MO.list [.int (10*(l.length:Nat)+18)]]).length=H2.length+1:=af
  have l2:(H2++[MO.list [.int (10*(l.length:Nat)+18)]]++[MO.list []]).length=H2.length+2:=by refine rwL af (rwL l1 ?_);rfl
  refine jL (hx3 _ _ D1.h) (by rw[ar,af,az];exact Yc190 k4) (aS (aS (go.nx (.mk (t:=t+1) rfl G' (D1.newC (d:=⟨(H2++[MO.list [.int (10*(l.length:Nat)+18)]]++[MO.list []]).length,H2.length,(H2++[MO.list [.int (10*(l.length:Nat)+18)]]).length,[10*(l.length:Nat)+18],[]⟩) hx3 a3 a1 a2 (λy hy=>?_) ?_) (I.new (by exact rwL af (rwL az (Yc189 k4))) ⟨⟨[],?_,λv hv=>bw hv dt⟩,λv hv=>bw hv dt⟩ ⟨Nat.le_refl 1,jo 1⟩ ⟨?_,?_,λv hv=>?_⟩) (Yc180 e)))))
  ·rw[getElem?_eq_none_iff]
   rcases cy.mp hy with rfl |hy
   ·exact(Yc188 l2:H2.length<=(H2++[MO.list [.int (10*(l.length:Nat)+18)]]++[MO.list []]).length)
   rcases cy.mp hy with rfl |hy
   ·exact Nat.le_refl _
   ·exact rwL (cq.mp hy) (Yc187 l1:H2.length<=(H2++[MO.list [.int (10*(l.length:Nat)+18)]]).length)
  ·refine(?_:[(H2++[MO.list [.int (10*(l.length:Nat)+18)]]++[MO.list []]).length,H2.length,(H2++[MO.list [.int (10*(l.length:Nat)+18)]]).length].Nodup)
   refine rwL l1 (rwL l2 ?_)
   simp
  ·exact(rwL ll (rwL (show 10*((l.length:Nat):Int)+18=10*((l.length+1:Nat):Int)+8 by exact Yc186) rfl):[10*((l.length:Nat):Int)+18]= [10*((l++[c]).length:Int)+8])
  ·show 0<(((List.range (1+x/8%17).toNat).map λt:Nat=>1000+20*((l.length:Nat):Int)+t)).length
   rw[ar,ri];exact Yc185 zzN zzL
  ·show(((List.range (1+x/8%17).toNat).map λt:Nat=>1000+20*((l.length:Nat):Int)+t)).length<=17
   rw[ar,ri];exact Yc184 zzN zzL
  ·obtain⟨z,hz,rfl⟩:=nu.mp hv
   have:=List.mem_range.mp hz
   exact(rwL ll (Yc183 this zzN zzL):1000+20*(((l++[c]).length:Int)-1)<=1000+20*((l.length:Nat):Int)+(z:Int)/\1000+20*((l.length:Nat):Int)+(z:Int)<1020+20*(((l++[c]).length:Int)-1))
 |false=>
  have L1:=I.lst
  refine bT (aO (cPutA G D rfl (Yc182 n5) (Yc181 tl e n5 sz) λ{H1 A'} hA D1=>aS (aO (cPutB (c:=({c with A:=A'}:Ch)) G D1 rfl (Yc182 n5) ((Yc181 tl e n5 sd:c.B.length<1000)) λ{H2 B'} hB D2=>aS (aS (go.nx (.mk (t:=t+1) rfl G' D2 (I.last ⟨?_,λv hv=>?_⟩ ?_ ?_) (Yc180 e))))))))
  ·refine xEA L1.a λA0 e0 h0=>?_
   rcases hA with rfl |rfl
   ·exact⟨A0,e0,h0⟩
   ·refine⟨A0++[10*(l.length:Nat)+x/8%3],by show c.A++_=_;refine rwL e0 ?_;rfl,λv hv=>?_⟩
    rcases cu.mp hv with hv |hv
    ·exact h0 v hv
    ·exact rwL (cq.mp hv) (Yc179 zzN zzL)
  ·rcases hB with rfl |rfl
   ·exact L1.b v hv
   ·rcases cu.mp (show v∈c.B++[10*(l.length:Nat)+x/8%3] from hv) with hv |hv
    ·exact L1.b v hv
    ·exact rwL (cq.mp hv) (Yc179 zzN zzL)
  ·refine(?_:A'.length+t<=c.A.length+(t+1))
   rcases hA with rfl |rfl
   ·exact Yc178
   ·exact rwL af (rwL az Yc177)
  ·refine(?_:B'.length+t<=c.B.length+(t+1))
   rcases hB with rfl |rfl
   ·exact(Yc178:c.B.length+t<=_)
   ·show(c.B++[_]).length+t<=_
    exact rwL af (rwL az Yc177)
structure CEn(k:Int)(c:Ch):Prop where
 a:∃ A',c.A=(10*k+8)::A'/\∀ v∈A',10*k<=v/\v<=10*k+2
 b:∃ B',c.B=B'++[10*k+9]/\∀ v∈B',10*k<=v/\v<=10*k+2
def cEnd:SF:=(aB (aW (b9 (aA aQ (aA aQ (eN "chapters") (eN "k")) (eK (.int 1))) (aA aH (aA lT (eK (.int 10)) (eN "k")) (eK (.int 9))))) (sK .next))
inductive LE(B:MH)(rc rb N T:Nat)(bs:ae (Nat×ae Int))(x:Int)(lo:Lo)(H:MH):Prop
 |mk {cs:ae Ch}{k:Nat} (ex:x=k) (F:Fs (cF rc rb) lo) (D:CB B rc rb cs bs H) (n:cs.length=N) (c:∀ (j:Nat) c,cs[j]? =aa c->(j<k->CEn j c)/\(k<=j->CI1 j c)) (sz:szc cs<=N+T) (sd:szd cs<=N+T+k):LE B rc rb N T bs x lo H
theorem e_step{N:Nat}{x:Int}(tl:T<100)(n5:N<=5)(xN:x<N)(I:LE B rc rb N T bs x lo H)(go:GoK (LE B rc rb N T bs (x+1)) Q K):aN "k" (.int x) lo H λlo1 H1=>cEnd lo1 H1 K:=by
 cases I with
 | @mk cs k ex F D n hc sz sd=>
 subst ex
 have kl:k<cs.length:=Yc222 n xN
 have G:=F.cons "k" (.int (k:Nat))
 refine(?_:cEnd (upd lo "k" (.int (k:Nat))) H K)
 revert G
 generalize upd lo "k" (.int (k:Nat))=lo1
 intro G
 have es:cs=cs.take k++(cs[k]::cs.drop (k+1)):=by rw[<-List.drop_eq_getElem_cons kl,List.take_append_drop]
 have el:(cs.take k).length=k:=rwL List.length_take (Yc221 kl)
 revert es el
 generalize cs.take k=l
 generalize cs[k]=c
 generalize cs.drop (k+1)=r
 intro es el
 subst es
 have hcc:=D.hc c (bg _ be)
 have h1:=aEy D.h (Yc220 n5 el n kl)
 rw[el]at h1
 have g0:(l++c::r)[l.length]? =aa c:=by rw[dh (Nat.le_refl _),mz];rfl
 have c1:=(hc l.length c g0).2 (Yc219 el)
 rw[el]at c1
 have cb:c.B.length<1000:=by
  rw[fA,show c::r= [c]++r from rfl,fA,nW]at sd
  exact Yc218 tl n5 n sd kl
 refine aO (pM (λqq=>aI (aI (aP (G _ (.ref rc) ⋯) (aP (G _ (.int (k:Nat)) ⋯) (Lp.mk h1 (bK (Lp.mk (eZ (v:=.ref c.b) hcc.1 (by decide) (cI (by decide) (show(1:Int)<((2:Nat):Int) by decide)) rfl) qq))))))) hcc.2.2 (aI (aI (bK (aP (G _ (.int (k:Nat)) ⋯) (Lp.mk (tY (by decide)) (bK (hV (jL hcc.2.2 (by rw[ar];exact pO cb) (aS (go.nx (.mk (k:=k+1) rfl (G.re _ ⋯) (cs:=l++({c with B:=c.B++[10*((k:Nat):Int)+9]}:Ch)::r) ?_ ?_ (λj d hd=>?_) ?_ ?_))))))))))))
 ·have:=D.setB (c.B++[10*((k:Nat):Int)+9])
  rw[au]at this
  exact this
 ·refine rwR n (rwL af (rwL af ?_));rfl
 ·rcases xT hd with ⟨q,rfl⟩ |⟨q,q2⟩
  ·exact⟨λe=>(rwL q (rwL el ⟨c1.a,c.B,rfl,c1.b⟩)),λh=>(Yc217 el q h).elim⟩
  ·have:=hc j d (q2 c)
   exact⟨λh=>this.1 (Yc216 el q h),λh=>this.2 (Yc215 h)⟩
 ·rw[gO,show c::r= [c]++r from rfl,gO,qD]at sz
  rw[gO,show (({c with B:=c.B++[10*((k:Nat):Int)+9]}:Ch)::r)= [({c with B:=c.B++[10*((k:Nat):Int)+9]}:Ch)]++r from rfl,gO,qD]
  exact sz
 ·rw[fA,show c::r= [c]++r from rfl,fA,nW]at sd
  rw[fA,show (({c with B:=c.B++[10*((k:Nat):Int)+9]}:Ch)::r)= [({c with B:=c.B++[10*((k:Nat):Int)+9]}:Ch)]++r from rfl,fA,nW]
  exact(rwL af (rwL az (Yc214 sd)):szd l+((c.B++[10*((k:Nat):Int)+9]).length+szd r)<=_)
theorem uY(h:LI H rn ns)(nl:ns.length<100)(k:∀ {H' rc rb cs bs},CB H rc rb cs bs H'->cs.length=bs.length+1->cs.length<=5->(∀ (j:Nat) c,cs[j]? =aa c->CEn j c)->(∀ (k:Nat) s,bs[k]? =aa s->0<s.2.length/\s.2.length<=17/\∀ v∈s.2,1000+20*(k:Int)<=v/\v<1020+20*(k:Int))->szc cs<=cs.length+ns.length->szd cs<=2*cs.length+ns.length->Q (.tup [.ref rc,.ref rb]) H'):gC X [.ref rn] H Q:=by
 refine⟨rfl,?_⟩
 have F:Fs [("numbers",.ref rn)] (loB ["numbers"] [.ref rn] lo0):=Fs.cons (l:=[]) nofun "numbers" (.ref rn)
 refine(?_:f6 X (loB ["numbers"] [.ref rn] lo0) H (mW Q))
 revert F
 generalize loB ["numbers"] [.ref rn] lo0=lo
 intro F
 refine aO (show cS ["chapters","between"] (bE (esC (bU (esC (bU (esC (bU (esC (eK (.int 8)) esN)) (esC (bU esN) esN))) esN)) (esC (bU esN) esN))) lo H _ from m9 (fP (aJ (pH (eL_i (aJ (pH (bK (j9 (aJ (jD (bD (aB2 (show 2<1000000 by decide) (j9 (aJ (jD (bD ⟨(show 2<100 by decide),Lf.mk rfl ⟨rfl,Lf.mk rfl (aS ?_)⟩⟩)))))))))))))))))
 have l1:(H++[MO.list [.int 8]]).length=H.length+1:=af
 have l2:(H++[MO.list [.int 8]]++[MO.list []]).length=H.length+2:=by refine rwL af (rwL l1 ?_);rfl
 have x1:Hx H (H++[MO.list [.int 8]]++[MO.list []]++[MO.list [.ref H.length,.ref (H++[MO.list [.int 8]]).length]]):=((Hx.app _ _).trans (.app _ _)).trans (.app _ _)
 have a1:=((Hx.app (H++[MO.list [.int 8]]) [MO.list []]).trans (.app _ [MO.list [.ref H.length,.ref (H++[MO.list [.int 8]]).length]])) _ _ (aV H (MO.list [.int 8]))
 have a2:=(Hx.app (H++[MO.list [.int 8]]++[MO.list []]) [MO.list [.ref H.length,.ref (H++[MO.list [.int 8]]).length]]) _ _ (aV (H++[MO.list [.int 8]]) (MO.list []))
 have a3:=aV (H++[MO.list [.int 8]]++[MO.list []]) (MO.list [.ref H.length,.ref (H++[MO.list [.int 8]]).length])
 have l3:(H++[MO.list [.int 8]]++[MO.list []]++[MO.list [.ref H.length,.ref (H++[MO.list [.int 8]]).length]]).length=H.length+3:=by refine rwL af (rwL l2 ?_);rfl
 have D0:CB H (H++[MO.list [.int 8]]++[MO.list []]++[MO.list [.ref H.length,.ref (H++[MO.list [.int 8]]).length]]).length (H++[MO.list [.int 8]]++[MO.list []]++[MO.list [.ref H.length,.ref (H++[MO.list [.int 8]]).length]]++[MO.list [.ref (H++[MO.list [.int 8]]++[MO.list []]).length]]).length [⟨(H++[MO.list [.int 8]]++[MO.list []]).length,H.length,(H++[MO.list [.int 8]]).length,[8],[]⟩] [] (H++[MO.list [.int 8]]++[MO.list []]++[MO.list [.ref H.length,.ref (H++[MO.list [.int 8]]).length]]++[MO.list [.ref (H++[MO.list [.int 8]]++[MO.list []]).length]]++[MO.list []]):=by
  revert x1 a1 a2 a3 l3
  generalize H++[MO.list [.int 8]]++[MO.list []]++[MO.list [.ref H.length,.ref (H++[MO.list [.int 8]]).length]]=H1
  intro x1 a1 a2 a3 l3
  have x2:Hx H1 (H1++[MO.list [.ref (H++[MO.list [.int 8]]++[MO.list []]).length]]++[MO.list []]):=(Hx.app _ _).trans (.app _ _)
  have l4:(H1++[MO.list [.ref (H++[MO.list [.int 8]]++[MO.list []]).length]]).length=H1.length+1:=af
  refine⟨x1.trans x2,Hx.app _ _ _ _ (aV H1 _),aV _ _,λc hc=>(rwL (cq.mp hc) ⟨x2 _ _ a3,x2 _ _ a1,x2 _ _ a2⟩),λs hs=>bw hs dt,?_,λy hy=>?_⟩
  ·refine(?_:[H1.length,(H1++[MO.list [.ref (H++[MO.list [.int 8]]++[MO.list []]).length]]).length,(H++[MO.list [.int 8]]++[MO.list []]).length,H.length,(H++[MO.list [.int 8]]).length].Nodup)
   refine rwL l4 (rwL l3 (rwL l1 (rwL l2 ?_)))
   simp
   exact Yc213
  ·have hy:y∈ [H1.length,(H1++[MO.list [.ref (H++[MO.list [.int 8]]++[MO.list []]).length]]).length,(H++[MO.list [.int 8]]++[MO.list []]).length,H.length,(H++[MO.list [.int 8]]).length]:=hy
   rw[l4,l3,l1,l2]at hy
   rw[getElem?_eq_none_iff]
   simp only[cy,dt,wv]at hy
   exact Yc212 hy
 have G:=(F.cons "between" (.ref (H++[MO.list [.int 8]]++[MO.list []]++[MO.list [.ref H.length,.ref (H++[MO.list [.int 8]]).length]]++[MO.list [.ref (H++[MO.list [.int 8]]++[MO.list []]).length]]).length)).cons "chapters" (.ref (H++[MO.list [.int 8]]++[MO.list []]++[MO.list [.ref H.length,.ref (H++[MO.list [.int 8]]).length]]).length)
 clear a1 a2 a3 l3 l2 l1 x1
 revert D0 G
 generalize upd (upd lo "between" (.ref (H++[MO.list [.int 8]]++[MO.list []]++[MO.list [.ref H.length,.ref (H++[MO.list [.int 8]]).length]]++[MO.list [.ref (H++[MO.list [.int 8]]++[MO.list []]).length]]).length)) "chapters" (.ref (H++[MO.list [.int 8]]++[MO.list []]++[MO.list [.ref H.length,.ref (H++[MO.list [.int 8]]).length]]).length)=lo1
 generalize H++[MO.list [.int 8]]++[MO.list []]++[MO.list [.ref H.length,.ref (H++[MO.list [.int 8]]).length]]++[MO.list [.ref (H++[MO.list [.int 8]]++[MO.list []]).length]]++[MO.list []]=H5
 generalize (H++[MO.list [.int 8]]++[MO.list []]++[MO.list [.ref H.length,.ref (H++[MO.list [.int 8]]).length]]++[MO.list [.ref (H++[MO.list [.int 8]]++[MO.list []]).length]]).length=rb
 generalize (H++[MO.list [.int 8]]++[MO.list []]++[MO.list [.ref H.length,.ref (H++[MO.list [.int 8]]).length]]).length=rc
 intro D0 G
 refine aO (rwL (wH X) (n6 (iL_i (λq=>aP (G _ (.ref rn) ⋯) q) (D0.hx.li h) ⟨_,jF (vs:=ns.map V.int) (LC H rc rb ns.length) (λI=>?_) (λI=>?_) (λI go=>c_step nl I go) _ 0 rfl (.mk (xs:=ns) (t:=0) rfl (G.re _ ⋯) D0 ⟨rfl,(show 1<=5 by decide),λk c hc=>?_,(λk s hs=>nomatch hs),Nat.le_refl 1,jo 1⟩ (Nat.zero_add _))⟩)))
 ·cases I with
  |mk er F D=>exact D.hx.li h
 ·cases I with
  | @mk xs cs bs t er F D I e=>
   cases pj.mp er.symm
   have e:t=ns.length:=e
   have lm:(cs.map Ch.v).length=cs.length:=ar ..
   have n5:=I.n5
   have sz:=I.sz
   have sd:=I.sd
   refine aS (aO (?_:g8 (hF C) (iR (eRL "chapters")) (aN "k") cEnd _ _ _))
   refine n6 (vM (F _ (.ref rc) ⋯) (aR D.h) (rwL lm (aE8 n5)) ⟨_,lE (LE H rc rb cs.length ns.length bs) (e:=cs.length) (λJ=>?_) (λxe J go=>e_step nl n5 xe J go) _ 0 (rwL lm aE9) (.mk (k:=0) rfl F D rfl (λj c hc=>⟨λh=>bw h (Nat.not_lt_zero _),λa=>I.c j c hc⟩) (Yc209 e sz) (Yc208 e sd))⟩)
   cases J with
   | @mk cs2 k2 ex F2 D2 n2 c2 sz2 sd2=>
    have ek:k2=cs.length:=Yc207 ex
    refine aS (aO (rC (fP (aJ (aP (F2 _ (.ref rc) ⋯) (aJ (aP (F2 _ (.ref rb) ⋯) (bD ⟨(show 2<100 by decide),k D2 (rwL n2 I.n) (Yc206 n5 n2) (λj c hc=>(c2 j c hc).1 ?_) I.s (Yc205 n2 sz2) (Yc204 n2 sd2 ek)⟩))))))))
    have:=(List.getElem?_eq_some_iff.mp hc).1
    exact Yc203 n2 ek this
 ·have:=(List.getElem?_eq_some_iff.mp hc).1
  rw[az]at this
  have e0:k=0:=Yc202 this
  subst e0
  exact cxS hc ⟨⟨[],rfl,λv hv=>bw hv dt⟩,λv hv=>bw hv dt⟩
theorem Ya0{a b:Int}:a<=b/\c<=d/\b+e<=f/\d+e<=g/\0<e->b<=f/\d<=g:=Z.R 0x104100000104004002eac2b69085b01f40f400aeb2b00216db2900216ba82169a02147 [a,b,c,d,e,f,g] []
theorem Ya1{a b:Int}:a<=b/\c<=d/\b+e<=f/\d+e<=g/\0<e->a<=b+e/\c<=d+e:=Z.R 0x104000100104000006cac0a82b29028085b01f40f400aeb2b00216db2900216ba82169a02147 [a,b,c,d,e,f,g] []
theorem Ya2{a b:Int}:0<a->b+a<=c/\d+a<=e/\c+f<=g/\e+f<=h/\0<f->b<c:=Z.R 0x1000000041a81f69002b41f40f400afb6c00216eb6a00216ca2b00216aa29002147a01f40f40087 [a,b,c,d,e,f,g,h] []
theorem Ya3{a b:Int}:a<=b->c<=d->0<e->b+e<=f/\d+e<=g/\f+h<=i/\g+h<=j/\0<h->a<=f/\c<=g/\f+h<=i/\g+h<=j/\0<h:=Z.R 0x4100000000000100100000000004000100000000100000100104004000000104006f07d03d002c6fb80085c2fb40085baa085b68085bc1f40f400b1bee002170bed00216eb2b00216db29002147b01f40f40087aea087a68087 [a,b,c,d,e,f,g,h,i,j] []
theorem Ya4{a b:Int}:a<=b->0<c->d+c<=e/\b+c<=f->a<=f:=Z.R 0x4100106da02b6aa400acaab002147a81f40f40087a68087 [a,b,c,d,e,f] []
theorem Ya5{a b:Int}:a<=b->0<c->b+c<=d/\e+c<=f->a<=d:=Z.R 0x4004106ba02b6ab000abaa9002147a81f40f40087a68087 [a,b,c,d,e,f] []
class inductive Tree(a b:ae Int):Wd->ae T3->Prop
 |leaf {w:Wd} (h:∀ i j k,In a b w i j k->¬0<k):Tree a b w []
 |node {w:Wd}{i j k:Int}{x y:ae T3} (B:Best a b w i j k) (p:0<k) (hx:Tree a b ⟨w.al,i,w.bl,j⟩ x) (hy:Tree a b ⟨i+k,w.ah,j+k,w.bh⟩ y):Tree a b w (x++⟨i,j,k⟩::y)
class inductive Trs(a b:ae Int):ae Wd->ae (ae T3)->Prop
 |nil:Trs a b [] []
 |cons {w:Wd}{q:ae Wd}{x:ae T3}{xs:ae (ae T3)} (h:Tree a b w x) (t:Trs a b q xs):Trs a b (w::q) (x::xs)
set_option tactic.hygienic true in
theorem aAi(h:Trs a b (gW w i j q) bs):∃ x xs,Tree a b ⟨w.al,i,w.bl,j⟩ x/\Trs a b q xs/\bs.flatten=x++xs.flatten:=by
 unfold gW at h
 split at h
 ·cases h with
  |cons h t=>exact⟨_,_,h,t,rfl⟩
 ·rename_i n
  exact⟨[],bs,.leaf λi' j' k' B p=>n ⟨by have:=B.i0;have:=B.i1;exact(jr (Int.lt_of_le_of_lt B.i0 (ju i' p)) B.i1:w.al<i),jr (Int.lt_of_le_of_lt B.j0 (ju j' p)) B.j1⟩,h,rfl⟩
set_option tactic.hygienic true in
theorem aAh(h:Trs a b (iY w i j k q) bs):∃ x xs,Tree a b ⟨i+k,w.ah,j+k,w.bh⟩ x/\Trs a b q xs/\bs.flatten=x++xs.flatten:=by
 unfold iY at h
 split at h
 ·cases h with
  |cons h t=>exact⟨_,_,h,t,rfl⟩
 ·rename_i n
  exact⟨[],bs,.leaf λi' j' k' B p=>n ⟨jr (Int.lt_of_le_of_lt B.i0 (ju i' p)) B.i1,jr (Int.lt_of_le_of_lt B.j0 (ju j' p)) B.j1⟩,h,rfl⟩
theorem Run.tree(h:Run a b q m r):∃ bs,Trs a b q bs/\r.Perm (m++bs.flatten):=by
 induction h with
 |nil=>exact⟨[],.nil,by rw[List.flatten_nil,cw]⟩
 |zero B h ih=>
  exact xEA ih λbs t p=>⟨[]::bs,.cons (.leaf λi' j' k' n q=>bw ((B.g i' j' k' n q).pos q) (ja _)) t,p⟩
 | @pos w q m r i j k B p h ih=>
  refine xEA ih λbs t pm=>?_
  obtain⟨y,ys,hy,t1,e1⟩:=aAh t
  obtain⟨x,xs,hx,t2,e2⟩:=aAi t1
  refine⟨(x++⟨i,j,k⟩::y)::xs,.cons (.node B p hx hy) t2,pm.trans ?_⟩
  rw[e1,e2,we,bn,bn]
  refine List.Perm.append_left m ?_
  show(T3.mk i j k::(y++(x++xs.flatten))).Perm (x++T3.mk i j k::(y++xs.flatten))
  refine List.Perm.trans (.cons _ ?_) xh.symm
  rw[<-bn,<-bn]
  exact List.Perm.append_right _ List.perm_append_comm
theorem Tree.uniq(h:Tree a b w x):Tree a b w y->x=y:=by
 induction h generalizing y with
 |leaf h=>
  intro h'
  cases h' with
  |leaf=>rfl
  |node B p=>exact bw p (h _ _ _ B.n)
 |node B p hx hy ih1 ih2=>
  intro h'
  cases h' with
  |leaf h=>exact bw p (h _ _ _ B.n)
  |node B' p' hx' hy'=>
   refine xAA (B.uniq B') λe1 e2 e3=>?_
   subst e1 e2 e3
   exact rwL (ih1 hx') (rwL (ih2 hy') rfl)
class inductive Seq:Int->Int->ae T3->Int->Int->Prop
 |nil {i j i' j':Int} (hi:i<=i') (hj:j<=j'):Seq i j [] i' j'
 |cons {i j i' j':Int}{t:T3}{l:ae T3} (hi:i<=t.i) (hj:j<=t.j) (p:0<t.k) (h:Seq (t.i+t.k) (t.j+t.k) l i' j'):Seq i j (t::l) i' j'
theorem Seq.app(h:Seq i j l i' j')(g:Seq i' j' m x y):Seq i j (l++m) x y:=by
 induction h with
 | @nil i j i' j' hi hj=>
  cases g with
  |nil h1 h2=>exact .nil (dw hi h1) (dw hj h2)
  |cons h1 h2 p h=>exact .cons (dw hi h1) (dw hj h2) p h
 |cons hi hj p h ih=>exact .cons hi hj p (ih g)
theorem Tree.seq(h:Tree a b w x):w.al<=w.ah->w.bl<=w.bh->Seq w.al w.bl x w.ah w.bh:=by
 induction h with
 |leaf=>exact .nil
 |node B p hx hy ih1 ih2=>
  intro h1 h2
  have n:=B.n
  have k0:=oh p
  exact(ih1 n.i0 n.j0).app (.cons (dj _) (dj _) p (ih2 n.i1 n.j1))
theorem Seq.low(h:Seq i j l x y):∀ t∈l,i<=t.i/\j<=t.j/\t.i+t.k<=x/\t.j+t.k<=y/\0<t.k:=by
 have le:∀ {i j x y:Int}{l:ae T3},Seq i j l x y->i<=x/\j<=y:=λh=>by
  induction h with
  |nil hi hj=>exact⟨hi,hj⟩
  |cons hi hj p h ih=>exact⟨Ya5 hi p ih,Ya4 hj p ih⟩
 induction h with
 |nil=>exact λq h=>bw h dt
 | @cons i j i' j' t l hi hj p h ih=>
  intro u hu
  rcases cy.mp hu with rfl |hu
  ·exact⟨hi,hj,(le h).1,(le h).2,p⟩
  ·have:=ih u hu;exact Ya3 hi hj p this
theorem Seq.sd(h:Seq i j l x y):wR T3.i l:=by
 induction h with
 |nil=>exact .nil
 |cons hi hj p h ih=>exact ip.mpr ⟨λu hu=>by have:=h.low u hu;exact Ya2 p this,ih⟩
theorem Run.is(h:Run a b [⟨0,a.length,0,b.length⟩] [] r)(t:Tree a b ⟨0,a.length,0,b.length⟩ T):isort T3.i r=T:=by
 refine xEA h.tree λbs t2 p=>?_
 cases t2 with
 |cons t3 t4=>
  cases t4
  rw[t3.uniq t]at p
  rw[we,List.flatten_nil,cw,kn]at p
  exact lM ((bW T3.i r).trans p) (lA h.sorted.1) (t.seq (ee _) (ee _)).sd
theorem Run.tree0(h:Run a b [⟨0,a.length,0,b.length⟩] [] r):Tree a b ⟨0,a.length,0,b.length⟩ (isort T3.i r):=by
 refine xEA h.tree λbs t2 p=>?_
 cases t2 with
 |cons t3 t4=>
  cases t4
  exact rwL (h.is t3) t3
def eI(d:Int)(l:ae T3):Int:=(l.getLast?).elim d λt=>t.i+t.k
def eJ(d:Int)(l:ae T3):Int:=(l.getLast?).elim d λt=>t.j+t.k
def bI(d:Int)(l:ae T3):Int:=(l.head?).elim d T3.i
def bJ(d:Int)(l:ae T3):Int:=(l.head?).elim d T3.j
theorem In.sub(h:In a b v i j k)(s:Sb v w):In a b w i j k:=⟨dw s.a0 h.i0,dw h.i1 s.a1,dw s.b0 h.j0,dw h.j1 s.b1,h.k0,h.m⟩
def win(w:Wd)(x z:ae T3):Wd:=⟨eI w.al x,bI w.ah z,eJ w.bl x,bJ w.bh z⟩
theorem aAf(h:Seq w.al w.bl (x++(y++z)) w.ah w.bh):Sb (win w x z) w:=by
 have L:=h.low
 have e:∀ t∈x,w.al<=t.i+t.k/\w.bl<=t.j+t.k:=λt ht=>by have:=L t (cz _ ht);exact Ya1 this
 have f:∀ t∈z,t.i<=w.ah/\t.j<=w.bh:=λt ht=>by have:=L t (bg _ (bg _ ht));exact Ya0 this
 refine⟨?_,?_,?_,?_⟩
 ·refine(?_:w.al<=(x.getLast?).elim w.al λt=>t.i+t.k)
  cases q:x.getLast? with
  |none=>exact dj _
  |some t=>exact(e t (List.mem_of_getLast? q)).1
 ·show(z.head?).elim w.ah T3.i<=w.ah
  cases q:z.head? with
  |none=>exact dj _
  |some t=>exact(f t (List.mem_of_head? q)).1
 ·refine(?_:w.bl<=(x.getLast?).elim w.bl λt=>t.j+t.k)
  cases q:x.getLast? with
  |none=>exact dj _
  |some t=>exact(e t (List.mem_of_getLast? q)).2
 ·show(z.head?).elim w.bh T3.j<=w.bh
  cases q:z.head? with
  |none=>exact dj _
  |some t=>exact(f t (List.mem_of_head? q)).2
theorem jS(d:Int)(t:T3)(l:ae T3):eI d (t::l)=eI (t.i+t.k) l:=by
 unfold eI
 refine rwL List.getLast?_cons ?_
 cases l.getLast? <;>rfl
theorem jR(d:Int)(t:T3)(l:ae T3):eJ d (t::l)=eJ (t.j+t.k) l:=by
 unfold eJ
 refine rwL List.getLast?_cons ?_
 cases l.getLast? <;>rfl
theorem l6(t:T3)(c p:ae T3):∀ d:Int,eI d (p++t::c)=eI (t.i+t.k) c:=by
 induction p with
 |nil=>exact λd=>jS d t c
 |cons u p ih=>exact λd=>(jS d u _).trans (ih _)
theorem pI(t:T3)(c p:ae T3):∀ d:Int,eJ d (p++t::c)=eJ (t.j+t.k) c:=by
 induction p with
 |nil=>exact λd=>jR d t c
 |cons u p ih=>exact λd=>(jR d u _).trans (ih _)
theorem bI_app(d:Int)(t:T3)(c q:ae T3):bI d (c++t::q)=bI t.i c:=by cases c<;>rfl
theorem bJ_app(d:Int)(t:T3)(c q:ae T3):bJ d (c++t::q)=bJ t.j c:=by cases c<;>rfl
theorem Seq.right(h:Seq i j (l++m) x y):Seq (eI i l) (eJ j l) m x y:=by
 induction l generalizing i j with
 |nil=>exact h
 |cons t l ih=>
  cases h with
  |cons hi hj p h=>
   rw[jS,jR]
   exact ih h
theorem Seq.left(h:Seq i j (l++m) x y):Seq i j l (bI x m) (bJ y m):=by
 induction l generalizing i j with
 |nil=>
  cases m with
  |nil=>exact h
  |cons t m=>cases h with
   |cons hi hj p h=>exact .nil hi hj
 |cons t l ih=>
  cases h with
  |cons hi hj p h=>exact .cons hi hj p (ih h)
theorem Best.sub(h:Best a b w i j k)(p:0<k)(s:Sb v w)(n:In a b v i j k):Best a b v i j k:=⟨n,λz=>bw p (z▸ja _),λi' j' k' n' q=>h.g i' j' k' (n'.sub s) q⟩
def Wn(a b:ae Int)(v:Wd)(y:ae T3):Prop:=(y= []->∀ i j k,In a b v i j k->¬0<k)/\(y≠ []->∃ t∈y,0<t.k/\Best a b v t.i t.j t.k)
theorem Tree.win(h:Tree a b w bs):∀ {x y z:ae T3},bs=x++(y++z)->w.al<=w.ah->w.bl<=w.bh->Wn a b (win w x z) y:=by
 induction h with
 |leaf h=>
  intro x y z e h1 h2
  have e1:=iq.mp e.symm
  have e2:=iq.mp e1.2
  exact rwL e1.1 (rwL e2.1 (rwL e2.2 ⟨λf=>h,λq=>bw rfl q⟩))
 | @node w i j k p q B pk hx hy ih1 ih2=>
  intro x y z e h1 h2
  have n:=B.n
  have S:Seq w.al w.bl (x++(y++z)) w.ah w.bh:=e▸(Tree.node B pk hx hy).seq h1 h2
  have hit:(T3.mk i j k)∈y->Wn a b (Mine.Internal.win w x z) y:=λm=>⟨λq=>bw (q▸m) dt,λf=>⟨⟨i,j,k⟩,m,pk,B.sub pk (aAf S) (by
   have:=S.right.left.low _ m
   exact⟨this.1,this.2.2.1,this.2.1,this.2.2.2.1,n.k0,n.m⟩)⟩⟩
  have L:∀ {x y z:ae T3},p=x++(y++z)->Wn a b (Mine.Internal.win ⟨w.al,i,w.bl,j⟩ x z) y:=λe=>ih1 e n.i0 n.j0
  have R:∀ {x y z:ae T3},q=x++(y++z)->Wn a b (Mine.Internal.win ⟨i+k,w.ah,j+k,w.bh⟩ x z) y:=λe=>ih2 e n.i1 n.j1
  rcases List.append_eq_append_iff.mp e with ⟨c,e1,e2⟩ |⟨c,e1,e2⟩
  ·
   cases c with
   |nil=>
    rw[cw]at e1
    cases y with
    |nil=>
     subst e1
     have:=L (x:=x) (y:=[]) (z:=[]) (cw _).symm
     have e3:T3.mk i j k::q=z:=e2
     exact rwR e3 this
    |cons t y=>
     have e3:T3.mk i j k=t/\q=y++z:=List.cons.inj e2
     exact hit (e3.1▸be)
   |cons t c=>
    have e3:T3.mk i j k=t/\q=c++(y++z):=List.cons.inj e2
    have:=R e3.2
    refine rwL e1 (rwR e3.1 ?_)
    unfold Mine.Internal.win at this ⊢
    rw[l6,pI]
    exact this
  ·
   rcases List.append_eq_append_iff.mp e2 with ⟨d,e3,e4⟩ |⟨d,e3,e4⟩
   ·
    have:=L (x:=x) (y:=y) (z:=d) (by exact rwL e1 (rwL e3 rfl))
    refine rwL e4 ?_
    unfold Mine.Internal.win at this ⊢
    rw[bI_app,bJ_app]
    exact this
   ·
    cases d with
    |nil=>
     have:=L (x:=x) (y:=y) (z:=[]) (by rw[e1,e3,cw,cw])
     have e5:T3.mk i j k::q=z:=e4
     exact rwR e5 this
    |cons t d=>
     have e5:T3.mk i j k=t/\q=d++z:=List.cons.inj e4
     exact hit (rwL e3 (rwL e5.1 (bg _ be)))
theorem Ge.tr(h:Ge i j k i' j' k')(g:Ge i' j' k' x y z):Ge i j k x y z:=by
 unfold Ge at*;exact Yb4 h g
theorem Ge.bst:∀ (y:ae T3),y≠ []->∃ y1 p y2,y=y1++p::y2/\∀ q∈y,Ge p.i p.j p.k q.i q.j q.k:=λy=>by
 induction y with
 |nil=>exact λh=>bw rfl h
 |cons p l ih=>
  intro _
  by_cases e:l= []
  ·exact rwL e ⟨[],p,[],rfl,λq hq=>by refine rwL (cq.mp hq) ?_;unfold Ge;exact Yb3⟩
  ·obtain⟨y1,b,y2,e,h⟩:=ih e
   by_cases c:Ge b.i b.j b.k p.i p.j p.k
   ·exact⟨p::y1,b,y2,by refine rwL e ?_;rfl,λv hv=>(cy.mp hv).elim (λe=>e▸c) (h v)⟩
   ·refine⟨[],p,l,rfl,λv hv=>(cy.mp hv).elim (λe=>by refine rwL e ?_;unfold Ge;exact Yb3) λhv=>(Ge.tr (i':=b.i) (j':=b.j) (k':=b.k) ?_ (h v hv))⟩
    unfold Ge at c ⊢;exact Yb2 c
theorem aFm(sq:Seq W.al W.bl ps W.ah W.bh)(mt:∀ p∈ps,Mt a b p.i p.j p.k)(ge:∀ {x y z:ae T3},ps=x++(y++z)->∀ {i j k:Int},In a b (win W x z) i j k->0<k->∃ p∈y,Ge p.i p.j p.k i j k):∀ (n:Nat){x y z:ae T3},y.length<=n->ps=x++(y++z)->Tree a b (win W x z) y:=λn=>by
 induction n with
 |zero=>
  intro x y z hn e
  rw[dq (Nat.le_zero.mp hn)]at e ⊢
  exact .leaf λi j k n k0=>(ge e n k0).elim λp hp=>bw hp.1 dt
 |succ m ih=>
  intro x y z hn e
  by_cases q:y= []
  ·rw[q]at e ⊢
   exact .leaf λi j k n k0=>(ge e n k0).elim λp hp=>bw hp.1 dt
  ·obtain⟨y1,p,y2,ey,hb⟩:=Ge.bst y q
   have py:p∈y:=ey▸bg _ be
   have pp:p∈ps:=e▸bg _ (cz _ py)
   have sq':=sq
   rw[e]at sq'
   have lw:=sq'.right.left.low p py
   have ln:y1.length+(y2.length+1)<=m+1:=by rw[ey,af,di]at hn;exact hn
   have L:=ih (x:=x) (y:=y1) (z:=p::(y2++z)) (Yb1 ln) (by rw[e,ey,bn];rfl)
   have R:=ih (x:=(x++y1)++p::[]) (y:=y2) (z:=z) (Yb0 ln) (by refine rwL e (rwL ey ?_);simp)
   refine rwL ey (.node (i:=p.i) (j:=p.j) (k:=p.k) ⟨⟨lw.1,lw.2.2.1,lw.2.1,lw.2.2.2.1,oh lw.2.2.2.2,mt p pp⟩,λh=>bw lw.2.2.2.2 (h▸ja _),λi j k n k0=>(xEA (ge e n k0) λr hr g=>(hb r hr).tr g)⟩ lw.2.2.2.2 L ?_)
   ·unfold win at R ⊢
    rw[l6,pI]at R
    exact R
theorem aAj(sq:Seq W.al W.bl ps W.ah W.bh)(mt:∀ p∈ps,Mt a b p.i p.j p.k)(ge:∀ {x y z:ae T3},ps=x++(y++z)->∀ {i j k:Int},In a b (win W x z) i j k->0<k->∃ p∈y,Ge p.i p.j p.k i j k):Tree a b W ps:=aFm sq mt ge ps.length (x:=[]) (y:=ps) (z:=[]) (Nat.le_refl _) (cw _).symm
structure GE(a b:ae Int)(ps:ae T3):Prop where
 sq:Seq 0 0 ps a.length b.length
 mt:∀ p∈ps,Mt a b p.i p.j p.k
 ge:∀ {x y z:ae T3},ps=x++(y++z)->∀ {i j k:Int},In a b (win ⟨0,a.length,0,b.length⟩ x z) i j k->0<k->∃ p∈y,Ge p.i p.j p.k i j k
theorem GE.tree(h:GE a b ps):Tree a b ⟨0,a.length,0,b.length⟩ ps:=aAj (W:=⟨0,a.length,0,b.length⟩) h.sq h.mt h.ge
theorem Tree.gE(h:Tree a b ⟨0,a.length,0,b.length⟩ ps):GE a b ps:=by
 have A:(0:Int)<=a.length:=ee _
 have B:(0:Int)<=b.length:=ee _
 refine⟨h.seq A B,λp hp=>?_,λ{x y z} e {i j k} n k0=>?_⟩
 ·refine xEE (List.append_of_mem hp) λx z e=>?_
  have w:=(h.win (x:=x) (y:=[p]) (z:=z) e A B).2 (List.cons_ne_nil _ _)
  obtain⟨t,ht,_,bt⟩:=w
  rw[cq.mp ht]at bt
  exact bt.n.m
 ·have w:=h.win e A B
  by_cases q:y= []
  ·exact bw k0 (w.1 q i j k n)
  ·obtain⟨t,ht,_,bt⟩:=w.2 q
   exact⟨t,ht,bt.g i j k n k0⟩
def sh(X Y:Int)(p:T3):T3:=⟨p.i+X,p.j+Y,p.k⟩
theorem u6{i:Int}(i0:0<=i)(h:i<a.length):av (a++c) i=av a i:=by
 unfold av
 exact rwL dc (rwL dc (rwL (eo (Yc45 i0 h)) rfl))
theorem qB{i:Int}(h:a.length<=i):av (a++c) i=av c (i-a.length):=by
 unfold av
 exact rwL dc (rwL dc (rwL (dh (Yc47 h)) (rwL (show (i-(a.length:Int)).toNat=i.toNat-a.length by exact Yc46) rfl)))
theorem jK{i:Int}(i0:0<=i)(h:i<a.length):av a i∈a:=by
 unfold av
 exact rwL dc (rwL (df (Yc45 i0 h)) (List.getElem_mem _))
structure Spt(a b c d:ae Int):Prop where
 l:∀ u∈a,∀ v∈d,u≠v
 r:∀ u∈c,∀ v∈b,u≠v
 e: ¬(0<a.length/\0<b.length/\0<c.length/\0<d.length/\av a (a.length-1)=av b (b.length-1)/\av c 0=av d 0)
theorem Spt.side(S:Spt a b c d){i j:Int}(i0:0<=i)(i1:i<a.length+c.length)(j0:0<=j)(j1:j<b.length+d.length)(e:av (a++c) i=av (b++d) j):(i<a.length/\j<b.length)\/(a.length<=i/\b.length<=j):=by
 by_cases p:i<a.length
 ·by_cases q:j<b.length
  ·exact .inl ⟨p,q⟩
  ·rw[u6 i0 p,qB (Yc42 q)]at e
   exact bw e (S.l _ (jK i0 p) _ (jK (Yc44 q) (Yc43 j1)))
 ·by_cases q:j<b.length
  ·rw[qB (Yc42 p),u6 j0 q]at e
   exact bw e (S.r _ (jK (Yc44 p) (Yc43 i1)) _ (jK j0 q))
  ·exact .inr ⟨Yc42 p,Yc42 q⟩
theorem Spt.match(S:Spt a b c d){k:Int}(i0:0<=i)(i1:i+k<=a.length+c.length)(j0:0<=j)(j1:j+k<=b.length+d.length)(m:Mt (a++c) (b++d) i j k)(k0:0<k):(i+k<=a.length/\j+k<=b.length)\/(a.length<=i/\b.length<=j):=by
 have A:=λt (t0:0<=t) (t1:t<k)=>S.side (i:=i+t) (j:=j+t) (Yc13 i0 t0) (Yc41 i1 t1) (Yc13 j0 t0) (Yc41 j1 t1) (m t t0 t1)
 rcases A 0 (dj _) k0 with h |h
 ·rcases A (k-1) (Yc40 k0) Yc39 with g |g
  ·exact .inl ⟨Yc38 g,Yc37 g⟩
  ·have g1:=A (a.length-i) (Yc35 h) (Yc34 g)
   have g2:=A (a.length-i-1) (Yc33 h) (Yc32 g)
   have ej:j+(a.length-i)=b.length:=Yc36 g1 g2
   have m1:=m (a.length-i) (Yc35 h) (Yc34 g)
   have m2:=m (a.length-i-1) (Yc33 h) (Yc32 g)
   rw[show i+((a.length:Int)-i)=a.length by exact Yc31,ej,qB (dj _),qB (dj _),Int.sub_self,Int.sub_self]at m1
   rw[show i+((a.length:Int)-i-1)=a.length-1 by exact Yc30,show j+((a.length:Int)-i-1)=b.length-1 by exact Yc29 ej,u6 (Yc28 i0 h) Yc26,u6 (Yc27 j0 h) Yc26]at m2
   exact bw ⟨Yc25 i0 h,Yc24 j0 h,Yc23 i1 g,Yc22 j1 g,m2,m1⟩ S.e
 ·exact .inr ⟨Yc21 h,Yc20 h⟩
theorem eI_sh(X Y:Int):∀ (l:ae T3) (d:Int),eI (d+X) (l.map (sh X Y))=eI d l+X:=λl=>by
 induction l with
 |nil=>exact λd=>rfl
 |cons t l ih=>
  intro d
  rw[fp,jS,jS,<-ih]
  congr 1
  exact(Yc18:t.i+X+t.k=_)
theorem eJ_sh(X Y:Int):∀ (l:ae T3) (d:Int),eJ (d+Y) (l.map (sh X Y))=eJ d l+Y:=λl=>by
 induction l with
 |nil=>exact λd=>rfl
 |cons t l ih=>
  intro d
  rw[fp,jR,jR,<-ih]
  congr 1
  exact(Yc18:t.j+Y+t.k=_)
theorem aEw(X Y:Int)(l:ae T3)(d:Int):bI (d+X) (l.map (sh X Y))=bI d l+X:=by cases l<;>rfl
theorem aEv(X Y:Int)(l:ae T3)(d:Int):bJ (d+Y) (l.map (sh X Y))=bJ d l+Y:=by cases l<;>rfl
theorem Seq.sh(h:Seq i j l x y)(X Y:Int):Seq (i+X) (j+Y) (l.map (Mine.Internal.sh X Y)) (x+X) (y+Y):=by
 induction h with
 |nil hi hj=>exact .nil (Yc19 hi) (Yc19 hj)
 | @cons i j x y t l hi hj p h ih=>
  exact .cons (t:=Mine.Internal.sh X Y t) ((Yc19 hi:i+X<=t.i+X)) ((Yc19 hj:j+Y<=t.j+Y)) p (rwL (show t.i+X+t.k=t.i+t.k+X by exact Yc18) (rwL (show t.j+Y+t.k=t.j+t.k+Y by exact Yc18) ih):Seq (t.i+X+t.k) (t.j+Y+t.k) _ _ _)
theorem Mt.r(m:Mt c d i j k)(i0:0<=i)(j0:0<=j):Mt (a++c) (b++d) (i+a.length) (j+b.length) k:=λt t0 t1=>by
 exact rwL (qB (Yc17 i0 t0)) (rwL (qB (Yc17 j0 t0)) (rwL (show i+(a.length:Int)+t-a.length=i+t by exact Yc16) (rwL (show j+(b.length:Int)+t-b.length=j+t by exact Yc16) (m t t0 t1))))
theorem Mt.r_(m:Mt (a++c) (b++d) i j k)(i0:a.length<=i)(j0:b.length<=j):Mt c d (i-a.length) (j-b.length) k:=λt t0 t1=>by
 have:=m t t0 t1
 rw[qB (Yc15 i0 t0),qB (Yc15 j0 t0),show i+t-(a.length:Int)=i-a.length+t by exact Yc14,show j+t-(b.length:Int)=j-b.length+t by exact Yc14]at this
 exact this
theorem Mt.l(m:Mt a b i j k)(i0:0<=i)(j0:0<=j)(i1:i+k<=a.length)(j1:j+k<=b.length):Mt (a++c) (b++d) i j k:=λt t0 t1=>by
 exact rwL (u6 (Yc13 i0 t0) (Yc12 i1 t1)) (rwL (u6 (Yc13 j0 t0) (Yc12 j1 t1)) (m t t0 t1))
theorem Mt.l_(m:Mt (a++c) (b++d) i j k)(i0:0<=i)(j0:0<=j)(i1:i+k<=a.length)(j1:j+k<=b.length):Mt a b i j k:=λt t0 t1=>by
 have:=m t t0 t1
 rw[u6 (Yc13 i0 t0) (Yc12 i1 t1),u6 (Yc13 j0 t0) (Yc12 j1 t1)]at this;exact this
theorem qX{α:Type}{p q x y z:ae α}(e:p++q=x++(y++z)):(∃ u,x=p++u/\q=u++(y++z))\/(∃ u,p=x++(y++u)/\z=u++q)\/(∃ u v,p=x++u/\y=u++v/\q=v++z):=by
 rcases List.append_eq_append_iff.mp e with ⟨u,h1,h2⟩ |⟨u,h1,h2⟩
 ·exact .inl ⟨u,h1,h2⟩
 ·rcases List.append_eq_append_iff.mp h2 with ⟨v,h3,h4⟩ |⟨v,h3,h4⟩
  ·exact .inr (.inl ⟨v,by exact rwL h1 (rwL h3 rfl),h4⟩)
  ·exact .inr (.inr ⟨u,v,h1,h3,h4⟩)
theorem GE.cat(L:GE a b ps)(R:GE c d qs)(S:Spt a b c d):GE (a++c) (b++d) (ps++qs.map (sh a.length b.length)):=by
 have la:((a++c).length:Int)=c.length+a.length:=by rw[af];exact Yc11
 have lb:((b++d).length:Int)=d.length+b.length:=by rw[af];exact Yc11
 have sR:=R.sq.sh a.length b.length
 rw[ky,ky]at sR
 have lowL:=L.sq.low
 have lowR:=R.sq.low
 refine⟨rwL la (rwL lb (L.sq.app sR)),λp hp=>?_,λ{x y z} e {i j k} n k0=>?_⟩
 ·rcases cu.mp hp with hp |hp
  ·have:=lowL p hp
   exact(L.mt p hp).l (Yc10 this) (Yc9 this) this.2.2.1 this.2.2.2.1
  ·obtain⟨q,hq,rfl⟩:=nu.mp hp
   have:=lowR q hq
   exact(R.mt q hq).r (Yc10 this) (Yc9 this)
 ·have n0:=n.sub (aAf (w:=⟨0,(a++c).length,0,(b++d).length⟩) (e▸(show Seq 0 0 (ps++qs.map (sh a.length b.length)) (a++c).length (b++d).length by exact rwL la (rwL lb (L.sq.app sR)))))
  have i0:0<=i:=n0.i0
  have i1:i+k<=(a++c).length:=n0.i1
  have j0:0<=j:=n0.j0
  have j1:j+k<=(b++d).length:=n0.j1
  rw[la]at i1
  rw[lb]at j1
  have ni:eI 0 x<=i:=n.i0
  have nj:eJ 0 x<=j:=n.j0
  have nI:i+k<=bI (a++c).length z:=n.i1
  have nJ:j+k<=bJ (b++d).length z:=n.j1
  rw[la]at nI
  rw[lb]at nJ
  rcases S.match i0 (Yc8 i1) j0 (Yc8 j1) n.m k0 with g |g
  ·have m:=n.m.l_ i0 j0 g.1 g.2
   rcases qX e with ⟨u,rfl,e2⟩ |⟨u,e1,rfl⟩ |⟨u,v,e1,rfl,e2⟩
   ·rcases kx u with rfl |⟨u',t,rfl⟩
    ·rw[cw]at ni nj
     refine xEA (L.ge (x:=ps) (y:=[]) (z:=[]) (by simp) ⟨ni,g.1,nj,g.2,n.k0,m⟩ k0) λp hp _=>?_
     exact bw hp dt
    ·rw[jj,<-bn,l6]at ni
     refine xEA (nu.mp (show t∈qs.map (sh a.length b.length) by refine rwL e2 (rwL jj ?_);simp)) λq hq hq2=>?_
     have:=lowR q hq
     rw[<-hq2]at ni
     have ni:q.i+a.length+q.k<=i:=ni
     exact(Yc7 k0 g this ni).elim
   ·cases u with
    |nil=>
     exact xEA (L.ge e1 (i:=i) (j:=j) (k:=k) ⟨ni,g.1,nj,g.2,n.k0,m⟩ k0) λp hp hg=>⟨p,hp,hg⟩
    |cons t u=>
     exact xEA (L.ge e1 (i:=i) (j:=j) (k:=k) ⟨ni,nI,nj,nJ,n.k0,m⟩ k0) λp hp hg=>⟨p,hp,hg⟩
   ·exact xEA (L.ge (x:=x) (y:=u) (z:=[]) (by rw[e1,cw]) (i:=i) (j:=j) (k:=k) ⟨ni,g.1,nj,g.2,n.k0,m⟩ k0) λp hp hg=>⟨p,cz _ hp,hg⟩
  ·have m:=n.m.r_ g.1 g.2
   have fin:∀ {x0 y0 z0:ae T3},qs=x0++(y0++z0)->(x0= []\/(eI 0 x=eI 0 x0+a.length/\eJ 0 x=eJ 0 x0+b.length))->(bI (c.length+a.length) z=bI c.length z0+a.length/\bJ (d.length+b.length) z=bJ d.length z0+b.length)->∃ p∈y0.map (sh a.length b.length),Ge p.i p.j p.k i j k:=λ{x0 y0 z0} e0 h1 h2=>by
    have h3:eI 0 x0<=i-a.length/\eJ 0 x0<=j-b.length:=by
     rcases h1 with rfl |h1
     ·exact⟨(Yc6 g:0<=i-(a.length:Int)),(Yc5 g:0<=j-(b.length:Int))⟩
     ·exact Yc4 ni nj h1
    rw[h2.1]at nI
    rw[h2.2]at nJ
    refine xEA (R.ge e0 (i:=i-a.length) (j:=j-b.length) (k:=k) ⟨h3.1,(Yc3 nI:i-a.length+k<=bI c.length z0),h3.2,(Yc3 nJ:j-b.length+k<=bJ d.length z0),n.k0,m⟩ k0) λp hp hg=>⟨sh a.length b.length p,ly hp,?_⟩
    show Ge (p.i+a.length) (p.j+b.length) p.k i j k
    unfold Ge at hg ⊢;exact Yc2 hg
   rcases qX e with ⟨u,rfl,e2⟩ |⟨u,e1,rfl⟩ |⟨u,v,e1,rfl,e2⟩
   ·obtain⟨u0,r0,rfl,rfl,e3⟩:=List.map_eq_append_iff.mp e2
    obtain⟨y0,z0,rfl,rfl,rfl⟩:=List.map_eq_append_iff.mp e3
    refine fin rfl ?_ ⟨aEw _ _ z0 _,aEv _ _ z0 _⟩
    rcases kx u0 with rfl |⟨u',t,rfl⟩
    ·exact .inl rfl
    ·right
     have e1:=eI_sh a.length b.length (u'++[t]) 0
     have e2:=eJ_sh a.length b.length (u'++[t]) 0
     rw[au,List.map_singleton,l6]at e1
     rw[au,List.map_singleton,pI]at e2
     rw[jj,au,List.map_singleton,<-bn,l6,pI]
     exact⟨e1,e2⟩
   ·cases u with
    |nil=>
     exact xEA (fin (x0:=[]) (y0:=[]) (z0:=qs) rfl (.inl rfl) ⟨aEw _ _ qs _,aEv _ _ qs _⟩) λp hp f=>bw hp dt
    |cons t u=>
     have:=lowL t (by refine rwL e1 ?_;simp)
     have nI:i+k<=t.i:=nI
     exact(Yc1 k0 g this nI).elim
   ·obtain⟨y0,z0,rfl,rfl,rfl⟩:=List.map_eq_append_iff.mp e2
    exact xEA (fin (x0:=[]) rfl (.inl rfl) ⟨aEw _ _ z0 _,aEv _ _ z0 _⟩) λp hp hg=>⟨p,bg _ hp,hg⟩
theorem nad_00(x:T3)(l:ae T3):nad ⟨0,0,0⟩ (x::l)=nad x l:=by
 rw[qF]
 by_cases q:(0:Int)+0=x.i/\(0:Int)+0=x.j
 ·rw[bo q]
  cases x with
  |mk a b k=>
   have q1:(0:Int)+0=a:=q.1
   have q2:(0:Int)+0=b:=q.2
   exact rwR q1 (rwR q2 ((rwL (ky k) rfl):nad ⟨0,0,0+k⟩ l=nad ⟨0,0,k⟩ l))
 ·rw[bc q];rfl
theorem aBz:∀ (l:ae T3) (c:T3),(∀ t∈c::l,0<t.k)->(∀ s∈c::l,∀ t∈c::l,¬(s.i+s.k=t.i/\s.j+s.k=t.j))->nad c l=c::l
 | [],c,h,_=>by
  have:=h c be
  rw[tX,bc (Yc76 this)]
 |x::l,c,h,g=>by
  have:=h c be
  rw[qF,bc (g c be x (bq _ be)),bc (Yc76 this),aBz l x (λt ht=>h t (bq _ ht)) λs hs t ht=>g s (bq _ hs) t (bq _ ht)];rfl
theorem nad_0i(l:ae T3)(h:∀ t∈l,0<t.k)(g:∀ s∈l,∀ t∈l,¬(s.i+s.k=t.i/\s.j+s.k=t.j)):nad ⟨0,0,0⟩ l=l:=by
 cases l with
 |nil=>rfl
 |cons x l=>
  exact(nad_00 x l).trans (aBz l x h g)
theorem GE.gp(G:GE a b ps):∀ s∈ps,∀ t∈ps,¬(s.i+s.k=t.i/\s.j+s.k=t.j):=λs hs t ht e=>by
 have low:=G.sq.low
 have hs':=low s hs
 have ht':=low t ht
 refine xEE (List.append_of_mem hs) λx w e1=>?_
 have sq:=G.sq
 rw[e1]at sq
 rcases cu.mp (e1▸ht) with h |h
 ·have:=(sq.left).low t h
  have:t.i+t.k<=s.i:=this.2.2.1
  omega
 rcases cy.mp h with rfl |h
 ·exact Yc75 e hs'
 refine xEE (List.append_of_mem h) λw1 z e2=>?_
 have e3:ps=x++((s::(w1++[t]))++z):=by refine rwL e1 (rwL e2 ?_);simp
 have sq2:=G.sq
 rw[e3]at sq2
 have l1:=sq2.right.left.low
 have ls:=l1 s be
 have lt:=l1 t (by simp)
 have m:Mt a b s.i s.j (s.k+t.k):=λr r0 r1=>by
  by_cases q:r<s.k
  ·exact G.mt s hs r r0 q
  ·have:=G.mt t ht (r-s.k) (Yc74 q) (Yc73 r1)
   rw[<-e.1,<-e.2,show s.i+s.k+(r-s.k)=s.i+r by exact Yc72,show s.j+s.k+(r-s.k)=s.j+r by exact Yc72]at this
   exact this
 refine xEA (G.ge e3 (i:=s.i) (j:=s.j) (k:=s.k+t.k) ⟨ls.1,(Yc71 e lt:s.i+(s.k+t.k)<=bI a.length z),ls.2.1,(Yc70 e lt:s.j+(s.k+t.k)<=bJ b.length z),Yc69 ls lt,m⟩ (Yc68 ls lt)) λp hp hg=>?_
 have k1:s.k+t.k<=p.k:=by unfold Ge at hg;exact Yc67 hg
 rcases cy.mp hp with rfl |hp
 ·exact Yc66 lt k1
 ·have sq3:Seq (s.i+s.k) (s.j+s.k) (w1++[t]) (bI a.length z) (bJ b.length z):=by
   have:=sq2.right.left
   cases this with
   |cons _ _ _ h=>exact h
  have h1:=sq3.low p hp
  rcases cu.mp hp with hp |hp
  ·have h2:=(sq3.left).low p hp
   have:p.i+p.k<=t.i:=h2.2.2.1
   exact Yc65 e h2 this
  ·rw[cq.mp hp]at k1
   exact Yc64 ls k1
def cds(a b:ae Int)(ps:ae T3):ae Op:=ops 0 0 (ps++[⟨a.length,b.length,0⟩])
theorem GE.is(G:GE a b ps)(O:Ops a b l):l=cds a b ps:=by
 obtain⟨bl,⟨r,hr,e1⟩,e2⟩:=O
 have low:=G.sq.low
 refine rwL e2 (rwL e1 (rwL (hr.is G.tree) (rwL (nad_0i _ (λt ht=>(low t ht).2.2.2.2) G.gp) ?_)));rfl
theorem GE.few(G:GE a b ps)(hr:Run a b [⟨0,a.length,0,b.length⟩] [] r):r.length=ps.length:=by
 have:=ei List.length (hr.is G.tree)
 rwa [(bW T3.i r).length_eq]at this
theorem Ops.gE(O:Ops a b l):∃ ps,GE a b ps/\l=cds a b ps:=by
 have O':=O
 obtain⟨bl,⟨r,hr,e1⟩,e2⟩:=O
 have G:=hr.tree0.gE
 exact⟨_,G,G.is O'⟩
theorem Seq.cnt(h:Seq i j l x y):(∀ s∈l,∀ t∈l,¬(s.i+s.k=t.i/\s.j+s.k=t.j))->∀ t l',l=t::l'->t.i+t.j+3*l.length<=x+y+1:=by
 induction h with
 |nil=>intro _ t l' e;cases e
 | @cons i j x y t l hi hj p h ih=>
  intro g t' l' e
  cases e
  refine rwL di ?_
  cases l with
  |nil=>
   cases h with
   |nil h1 h2=>exact(Yc63 p h1 h2:t.i+t.j+3*(((0:Nat)+1:Nat):Int)<=x+y+1)
  |cons u l=>
   have i1:=ih (λs hs r hr=>g s (bq _ hs) r (bq _ hr)) u l rfl
   have lu:=h.low u be
   have ng:=g t be u (bq _ be)
   exact Yc62 p i1 lu ng
theorem GE.cnt(G:GE a b ps):3*(ps.length:Int)<=a.length+b.length+1:=by
 cases ps with
 |nil=>exact(Yc61:3*((0:Nat):Int)<=_)
 |cons t l=>
  have:=G.sq.cnt G.gp t l rfl
  have lt:=G.sq.low t be
  exact Yc60 this lt
theorem GE.self(K:ae Int):GE K K (if K.length=0 then [] else [⟨0,0,K.length⟩]):=by
 by_cases q:K.length=0
 ·refine rwL (bo q) ⟨.nil Yc59 Yc59,λp hp=>bw hp dt,λ{x y z} e {i j k} n k0=>?_⟩
  have e:([]:ae T3)=x++(y++z):=e
  have ex:x= []:=(iq.mp e.symm).1
  have ez:z= []:=(iq.mp (iq.mp e.symm).2).2
  subst ex ez
  have h1:(0:Int)<=i:=n.i0
  have h2:i+k<=K.length:=n.i1
  exact(Yc58 q k0 h1 h2).elim
 ·refine rwL (bc q) ⟨.cons (dj _) (dj _) (by show(0:Int)<K.length;exact Yc57 q) (.nil (by show(0:Int)+K.length<=K.length;exact Yc56) (by show(0:Int)+K.length<=K.length;exact Yc56)),λp hp=>(rwL (cq.mp hp) (λt a a=>rfl)),λ{x y z} e {i j k} n k0=>?_⟩
  ·cases y with
   |nil=>
    exfalso
    have e: [(⟨0,0,K.length⟩:T3)]=x++z:=e
    rcases List.append_eq_singleton_iff.mp e.symm with ⟨rfl,rfl⟩ |⟨rfl,rfl⟩
    ·have h1:(0:Int)<=i:=n.i0
     have h2:i+k<=0:=n.i1
     exact Yc55 k0 h1 h2
    ·have h1:(0:Int)+K.length<=i:=n.i0
     have h2:i+k<=K.length:=n.i1
     exact Yc54 k0 h1 h2
   |cons p y=>
    have l:=ei List.length e
    rw[af,af,di,di,og]at l
    have ex:x= []:=dq (Yc53 l)
    have ez:z= []:=dq (Yc52 l)
    have ey:y= []:=dq (Yc51 l)
    subst ex ez ey
    cases e
    refine⟨_,be,?_⟩
    have h1:(0:Int)<=i:=n.i0
    have h2:i+k<=K.length:=n.i1
    have h3:(0:Int)<=j:=n.j0
    refine(?_:Ge 0 0 K.length i j k)
    unfold Ge;exact Yc50 h1 h2 h3
def eKt(x y:Int)(n:Nat):ae Op:=if n=0 then [] else [⟨.eq,x,x+n,y,y+n⟩]
theorem aEn{K:ae Int}:cds K K (if K.length=0 then [] else [⟨0,0,K.length⟩])=eKt 0 0 K.length:=by
 unfold cds eKt
 by_cases q:K.length=0
 ·rw[bo q,bo q,kn,fY,qE,bo rfl,q];rfl
 ·refine rwL (bc q) (rwL (bc q) ?_)
  show ops 0 0 [⟨0,0,K.length⟩,⟨K.length,K.length,0⟩]=_
  rw[fY,fY,qE,bo rfl,bc (by show¬(K.length:Int)=0;exact Yc49 q)]
  unfold gap
  refine rwL (bc (ja _)) (rwL (bc (ja _)) (rwL (bc (by show¬(0:Int)+K.length<K.length;exact Yc48)) (rwL (bc (by show¬(0:Int)+K.length<K.length;exact Yc48)) ?_)));rfl
def shO(X Y:Int)(o:Op):Op:=⟨o.tag,o.i1+X,o.i2+X,o.j1+Y,o.j2+Y⟩
theorem gap_sh(X Y i j i' j':Int):gap (i+X) (j+Y) (i'+X) (j'+Y)=(gap i j i' j').map (shO X Y):=by
 have e1:(i+X<i'+X)=(i<i'):=propext ⟨λh=>Yc98 h,λh=>Yc97 h⟩
 have e2:(j+Y<j'+Y)=(j<j'):=propext ⟨λh=>Yc98 h,λh=>Yc97 h⟩
 unfold gap
 by_cases h1:i<i'
 ·by_cases h2:j<j'
  ·refine rwL (bo (e1▸h1)) (rwL (bo (e2▸h2)) (rwL (bo h1) (rwL (bo h2) ?_)));rfl
  ·refine rwL (bo (e1▸h1)) (rwL (bc (e2▸h2)) (rwL (bo h1) (rwL (bc h2) ?_)));rfl
 ·by_cases h2:j<j'
  ·refine rwL (bc (e1▸h1)) (rwL (bo (e2▸h2)) (rwL (bc h1) (rwL (bo h2) ?_)));rfl
  ·refine rwL (bc (e1▸h1)) (rwL (bc (e2▸h2)) (rwL (bc h1) (rwL (bc h2) ?_)));rfl
theorem ops_sh(X Y:Int):∀ (l:ae T3) (i j:Int),ops (i+X) (j+Y) (l.map (sh X Y))=(ops i j l).map (shO X Y):=λl=>by
 induction l with
 |nil=>exact λi j=>rfl
 |cons t l ih=>
  intro i j
  rw[fp,fY,fY,au,au]
  show gap (i+X) (j+Y) (t.i+X) (t.j+Y)++((if t.k=0 then [] else [Op.mk .eq (t.i+X) (t.i+X+t.k) (t.j+Y) (t.j+Y+t.k)])++ops (t.i+X+t.k) (t.j+Y+t.k) _)=_
  rw[gap_sh,show t.i+X+t.k=t.i+t.k+X by exact Yc18,show t.j+Y+t.k=t.j+t.k+Y by exact Yc18,ih]
  congr 2
  by_cases q:t.k=0
  ·refine rwL (bo q) (rwL (bo q) ?_);rfl
  ·refine rwL (bc q) (rwL (bc q) ?_);rfl
theorem nA:∀ (p q:ae T3) (i j:Int),ops i j (p++q)=ops i j p++ops (eI i p) (eJ j p) q:=λp=>by
 induction p with
 |nil=>exact λq i j=>rfl
 |cons t p ih=>
  intro q i j
  rw[jw,fY,fY,ih,jS,jR,bn,bn]
theorem aDb(i j:Int):gap i j i j= []:=by
 unfold gap
 exact rwL (bc (ja _)) (rwL (bc (ja _)) rfl)
theorem cds_ch(h1:eI 0 ps=a.length)(h2:eJ 0 ps=b.length):cds (a++c) (b++d) (ps++qs.map (sh a.length b.length))=cds a b ps++(cds c d qs).map (shO a.length b.length):=by
 have la:((a++c).length:Int)=c.length+a.length:=by rw[af];exact Yc11
 have lb:((b++d).length:Int)=d.length+b.length:=by rw[af];exact Yc11
 unfold cds
 have e:qs.map (sh a.length b.length)++[(⟨(a++c).length,(b++d).length,0⟩:T3)]=(qs++[(⟨c.length,d.length,0⟩:T3)]).map (sh a.length b.length):=by
  refine rwL au (rwL la (rwL lb ?_));rfl
 have z:=ops_sh a.length b.length (qs++[⟨c.length,d.length,0⟩]) 0 0
 rw[ky,ky]at z
 rw[bn,e,nA,h1,h2,z,nA ps,h1,h2,fY,aDb,bo rfl,qE,cw,cw,cw]
theorem cds_kp{K:ae Int}(h:0<K.length):cds (a++K) (b++K) (ps++[⟨a.length,b.length,K.length⟩])=cds a b ps++[⟨.eq,a.length,a.length+K.length,b.length,b.length+K.length⟩]:=by
 have la:((a++K).length:Int)=a.length+K.length:=rwL af Yc87
 have lb:((b++K).length:Int)=b.length+K.length:=rwL af Yc87
 unfold cds
 rw[la,lb,bn,nA,nA ps [⟨a.length,b.length,0⟩]]
 show _++ops (eI 0 ps) (eJ 0 ps) [⟨a.length,b.length,K.length⟩,⟨a.length+K.length,b.length+K.length,0⟩]=_
 rw[fY,fY,qE,fY,qE,bc (show¬(K.length:Int)=0 by exact Yc96 h),bo rfl,bo rfl,aDb]
 show ops 0 0 ps++(gap (eI 0 ps) (eJ 0 ps) a.length b.length++([Op.mk .eq a.length (a.length+K.length) b.length (b.length+K.length)]++([]++([]++[]))))=_
 simp only[cw,bn]
structure Sgm where
 K:ae Int
 A:ae Int
 B:ae Int
 L:ae Op
def fsL(l:ae Sgm):ae Int:=l.flatMap λs=>s.K++s.A
def snL(l:ae Sgm):ae Int:=l.flatMap λs=>s.K++s.B
def cdW:Int->Int->ae Sgm->ae Op
 |_,_,[]=>[]
 |x,y,s::l=>eKt x y s.K.length++(s.L.map (shO (x+s.K.length) (y+s.K.length))++cdW (x+s.K.length+s.A.length) (y+s.K.length+s.B.length) l)
structure vA(cl:Int->Int)(c:Int)(s:Sgm):Prop where
 k:∀ v∈s.K,cl v=2*c
 a:∀ v∈s.A,cl v=2*c+1
 b:∀ v∈s.B,cl v=2*c+1
 a0:0<s.A.length/\av s.A 0∉s.B
 bl:0<s.B.length/\av s.B (s.B.length-1)∉s.A
 o:Ops s.A s.B s.L
structure Qt(cl:Int->Int)(c:Int)(a b:ae Int)(ps:ae T3)(W:ae Op):Prop where
 g:GE a b ps
 ca:∀ v∈a,cl v<2*c
 cb:∀ v∈b,cl v<2*c
 e: ¬(0<a.length/\0<b.length/\av a (a.length-1)=av b (b.length-1))
 w:cds a b ps=W
theorem Qt.kp(Q:Qt cl c a b ps W)(K:ae Int)(kc:∀ v∈K,cl v=2*c)(n:0<K.length\/(a= []/\b= []/\ps= [])):∃ ps',GE (a++K) (b++K) ps'/\eI 0 ps'=(a++K).length/\eJ 0 ps'=(b++K).length/\cds (a++K) (b++K) ps'=W++eKt a.length b.length K.length/\ps'.length<=ps.length+1:=by
 by_cases q:K.length=0
 ·rcases n with n |⟨rfl,rfl,rfl⟩
  ·exact(Yc95 q n).elim
  ·have:K= []:=dq q
   refine rwL this ⟨[],Q.g,rfl,rfl,?_,jo _⟩
   unfold eKt
   exact rwL (bo (show([]:ae Int).length=0 from rfl)) (Q.w.trans (cw W).symm)
 ·have S:=GE.self K
  rw[bc q]at S
  have G:=Q.g.cat S ⟨λu hu v hv e=>by have:=Q.ca u hu;have:=kc v hv;rw[e]at*;omega,λu hu v hv e=>by have:=Q.cb v hv;have:=kc u hu;rw[e]at*;omega,λh=>Q.e ⟨h.1,h.2.1,h.2.2.2.2.1⟩⟩
  have em: [(⟨0,0,K.length⟩:T3)].map (sh a.length b.length)= [⟨a.length,b.length,K.length⟩]:=by
   show [T3.mk (0+(a.length:Int)) (0+b.length) K.length]=_
   rw[ky,ky]
  rw[em]at G
  refine⟨_,G,?_,?_,?_,?_⟩
  ·rw[l6,af]
   show(a.length:Int)+K.length=_
   exact Yc94
  ·rw[pI,af]
   show(b.length:Int)+K.length=_
   exact Yc94
  ·unfold eKt
   exact rwL (cds_kp (Yc93 q)) (rwL Q.w (rwL (bc q) rfl))
  ·exact rwL af (Nat.le_refl _)
theorem Qt.ch(Q:Qt cl c a b ps W)(O:vA cl c s)(n:0<s.K.length\/(a= []/\b= []/\ps= [])):∃ ps',Qt cl (c+1) (a++(s.K++s.A)) (b++(s.K++s.B)) ps' (W++(eKt a.length b.length s.K.length++s.L.map (shO (a.length+s.K.length) (b.length+s.K.length))))/\3*(ps'.length:Int)<=3*ps.length+s.A.length+s.B.length+4:=by
 obtain⟨p1,G1,h1,h2,h3,h4⟩:=Q.kp s.K O.k n
 refine xEA O.o.gE λqs G2 eL=>?_
 have ka:∀ v∈a++s.K,cl v<2*c+1:=λv hv=>(cu.mp hv).elim (λh=>by have:=Q.ca v h;exact Yc92 this) λh=>by have:=O.k v h;exact Yc91 this
 have kb:∀ v∈b++s.K,cl v<2*c+1:=λv hv=>(cu.mp hv).elim (λh=>by have:=Q.cb v h;exact Yc92 this) λh=>by have:=O.k v h;exact Yc91 this
 have G:=G1.cat G2 ⟨λu hu v hv e=>by have:=ka u hu;have:=O.b v hv;rw[e]at*;omega,λu hu v hv e=>by have:=kb v hv;have:=O.a u hu;rw[e]at*;omega,λh=>O.a0.2 (h.2.2.2.2.2▸jK (dj 0) (Yc90 h))⟩
 have cnt:=G2.cnt
 have la:((a++s.K).length:Int)=a.length+s.K.length:=rwL af Yc87
 have lb:((b++s.K).length:Int)=b.length+s.K.length:=rwL af Yc87
 have W':=cds_ch (c:=s.A) (d:=s.B) (qs:=qs) h1 h2
 rw[h3,<-eL,la,lb,bn W]at W'
 rw[la,lb]at G
 rw[bn,bn]at G W'
 refine⟨_,⟨G,λv hv=>?_,λv hv=>?_,λh=>?_,W'⟩,?_⟩
 ·rw[<-bn]at hv
  exact(cu.mp hv).elim (λh=>by have:=ka v h;exact Yc89 this) λh=>by have:=O.a v h;exact Yc88 this
 ·rw[<-bn]at hv
  exact(cu.mp hv).elim (λh=>by have:=kb v h;exact Yc89 this) λh=>by have:=O.b v h;exact Yc88 this
 ·have e:=h.2.2
  rw[<-bn,<-bn]at e
  have a0:=O.a0.1
  have b0:=O.bl.1
  have l1:(((a++s.K)++s.A).length:Int)=(a++s.K).length+s.A.length:=rwL af Yc87
  have l2:(((b++s.K)++s.B).length:Int)=(b++s.K).length+s.B.length:=rwL af Yc87
  rw[l1,l2,qB (Yc86 a0),qB (Yc86 b0),show ((b++s.K).length:Int)+s.B.length-1-(b++s.K).length=s.B.length-1 by exact Yc85]at e
  exact O.bl.2 (e▸jK (Yc84 a0) Yc83)
 ·rw[af,ar];exact Yc82 h4 cnt
theorem aDh(s:Sgm)(l:ae Sgm):fsL (s::l)=(s.K++s.A)++fsL l:=rfl
theorem aA3(s:Sgm)(l:ae Sgm):snL (s::l)=(s.K++s.B)++snL l:=rfl
def szS(l:ae Sgm):Int:=(l.map λs=>(s.A.length:Int)+s.B.length+4).sum
theorem Qt.all:∀ (l:ae Sgm){c:Int}{a b:ae Int}{ps:ae T3}{W:ae Op},Qt cl c a b ps W->(∀ (k:Nat) s,l[k]? =aa s->vA cl (c+k) s)->(∀ (k:Nat) s,l[k]? =aa s->0<s.K.length\/(k=0/\a= []/\b= []/\ps= []))-> ∃ ps',Qt cl (c+l.length) (a++fsL l) (b++snL l) ps' (W++cdW a.length b.length l)/\3*(ps'.length:Int)<=3*ps.length+szS l:=λl=>by
 induction l with
 |nil=>
  intro c a b ps W Q _ _
  refine⟨ps,?_,?_⟩
  ·show Qt cl (c+((0:Nat):Int)) (a++[]) (b++[]) ps (W++[])
   rw[cw,cw,cw,show c+((0:Nat):Int)=c by exact Yc80]
   exact Q
  ·exact(Yc81:_<=_+(0:Int))
 |cons s l ih=>
  intro c a b ps W Q ok ne
  have O:=ok 0 s rfl
  rw[show c+((0:Nat):Int)=c by exact Yc80]at O
  refine xEA (Q.ch O ((ne 0 s rfl).imp id And.right)) λp1 Q1 n1=>?_
  have a0:=O.a0.1
  refine xEA (ih Q1 (λk t h=>by have:=ok (k+1) t h;rwa [show c+((k+1:Nat):Int)=c+1+k by exact Yc79]at this) (λk t h=>(ne (k+1) t h).imp id λh=>bw h.1 (qw k))) λp2 Q2 n2=>⟨p2,?_,?_⟩
  ·rw[aDh,aA3,di,show c+((l.length+1:Nat):Int)=c+1+l.length by exact Yc79,<-bn a (s.K++s.A),<-bn b (s.K++s.B)]
   rw[bn W,bn (eKt a.length b.length s.K.length)]at Q2
   have l1:((a++(s.K++s.A)).length:Int)=a.length+s.K.length+s.A.length:=rwL af (rwL af Yc78)
   have l2:((b++(s.K++s.B)).length:Int)=b.length+s.K.length+s.B.length:=rwL af (rwL af Yc78)
   rw[l1,l2]at Q2
   exact Q2
  ·exact(Yc77 n1 n2:_<=_+((s.A.length:Int)+s.B.length+4+szS l))
def dd(n:Int)(c:ae Op):ae Op->ae (ae Op)
 | []=>[c]
 |o::l=>bif gN n o then(c++[o.hd n])::dd n [o.tl n] l else dd n (c++[o]) l
theorem dd_n(n:Int)(c:ae Op):dd n c []= [c]:=rfl
theorem l7(n:Int)(c:ae Op)(o:Op)(l:ae Op):dd n c (o::l)=bif gN n o then(c++[o.hd n])::dd n [o.tl n] l else dd n (c++[o]) l:=rfl
theorem dd_s(n:Int):∀ (l c:ae Op),∃ D d,dd n c l=D++[d]:=λl=>by
 induction l with
 |nil=>exact λc=>⟨[],c,rfl⟩
 |cons o l ih=>
  intro c
  rw[l7]
  cases gN n o with
  |false=>exact ih _
  |true=>
   exact xEE (ih [o.tl n]) λD d e=>⟨(c++[o.hd n])::D,d,by rw[fz,e];rfl⟩
theorem sS(n:Int)(m:ae Op):∀ (l c:ae Op){D:ae (ae Op)}{d:ae Op},dd n c l=D++[d]->dd n c (l++m)=D++dd n d m:=λl=>by
 induction l with
 |nil=>
  intro c D d e
  rw[dd_n]at e
  rcases List.append_eq_singleton_iff.mp e.symm with ⟨rfl,h⟩ |⟨rfl,h⟩
  ·cases h;rfl
  ·cases h
 |cons o l ih=>
  intro c D d e
  rw[l7]at e
  rw[jw,l7]
  cases q:gN n o with
  |false=>rw[q,jq]at e;exact ih _ e
  |true=>
   rw[q,fz]at e
   refine xEE (dd_s n l [o.tl n]) λD' d' e'=>?_
   rw[e',<-jw]at e
   have e3:=List.append_inj' e rfl
   rw[<-e3.1,jw,fz]
   cases e3.2
   exact rwL (ih _ e') rfl
theorem wB(n:Int)(p:ae Op):∀ (l c:ae Op){d:ae Op}{D:ae (ae Op)},dd n c l=d::D->dd n (p++c) l=(p++d)::D:=λl=>by
 induction l with
 |nil=>
  intro c d D e
  cases e
  rfl
 |cons o l ih=>
  intro c d D e
  rw[l7]at e ⊢
  cases q:gN n o with
  |false=>rw[q,jq]at e;rw[jq,bn];exact ih _ e
  |true=>rw[q,fz]at e;cases e;rw[fz,bn]
theorem lB(n:Int):∀ (l c:ae Op){D:ae (ae Op)}{d:ae Op},dd n c l=D++[d]->k9 d=ak->grps n c l=D++[d]:=λl=>by
 induction l with
 |nil=>
  intro c D d e hd
  rw[dd_n]at e
  rcases List.append_eq_singleton_iff.mp e.symm with ⟨rfl,h⟩ |⟨rfl,h⟩
  ·cases h
   rw[v4,hd];rfl
  ·cases h
 |cons o l ih=>
  intro c D d e hd
  rw[l7]at e
  rw[oU]
  cases q:gN n o with
  |false=>rw[q,jq]at e;exact ih _ e hd
  |true=>
   rw[q,fz]at e
   refine xEE (dd_s n l [o.tl n]) λD' d' e'=>?_
   rw[e',<-jw]at e
   have e3:=List.append_inj' e rfl
   refine rwR e3.1 ?_
   cases e3.2
   rw[fz,ih _ e' hd];rfl
theorem big_sh(n X Y:Int)(o:Op):gN n (shO X Y o)=gN n o:=by
 show(o.tag.isEq && decide (o.i2+X-(o.i1+X)>n+n))=(o.tag.isEq && decide (o.i2-o.i1>n+n))
 exact rwL (show o.i2+X-(o.i1+X)=o.i2-o.i1 by exact Yc107) rfl
theorem hd_sh(n X Y:Int)(o:Op):(shO X Y o).hd n=shO X Y (o.hd n):=by
 show Op.mk o.tag (o.i1+X) (min (o.i2+X) (o.i1+X+n)) (o.j1+Y) (min (o.j2+Y) (o.j1+Y+n))=Op.mk o.tag (o.i1+X) (min o.i2 (o.i1+n)+X) (o.j1+Y) (min o.j2 (o.j1+n)+Y)
 congr 1
 ·exact Yc106
 ·exact Yc106
theorem tl_sh(n X Y:Int)(o:Op):(shO X Y o).tl n=shO X Y (o.tl n):=by
 show Op.mk o.tag (max (o.i1+X) (o.i2+X-n)) (o.i2+X) (max (o.j1+Y) (o.j2+Y-n)) (o.j2+Y)=Op.mk o.tag (max o.i1 (o.i2-n)+X) (o.i2+X) (max o.j1 (o.j2-n)+Y) (o.j2+Y)
 congr 1
 ·exact Yc105
 ·exact Yc105
theorem dd_sh(n X Y:Int):∀ (l c:ae Op),dd n (c.map (shO X Y)) (l.map (shO X Y))=(dd n c l).map λg=>g.map (shO X Y):=λl=>by
 induction l with
 |nil=>exact λc=>rfl
 |cons o l ih=>
  intro c
  rw[fp,l7,l7,big_sh]
  cases gN n o with
  |false=>
   rw[jq,jq,<-ih,au];rfl
  |true=>
   rw[fz,fz,fp,<-ih,hd_sh,tl_sh,au];rfl
structure Ce(L:ae Op):Prop where
 h:∃ o l,L=o::l/\o.tag.isEq=am
 t:∃ l o,L=l++[o]/\o.tag.isEq=am
theorem Ce.sh(h:Ce L)(X Y:Int):Ce (L.map (shO X Y)):=by
 obtain⟨o,l,rfl,e⟩:=h.h
 obtain⟨l',z,e2,e3⟩:=h.t
 exact⟨⟨_,_,rfl,e⟩,⟨l'.map (shO X Y),shO X Y z,by refine rwL e2 (rwL au ?_);rfl,e3⟩⟩
theorem big_ch(h:o.tag.isEq=am):gN n o=am:=by unfold gN;refine rwL h ?_;rfl
theorem r7(h:Ce L)(M:ae Op):kC n (L++M)=L++M:=by
 obtain⟨o,l,rfl,e⟩:=h.h
 show(bif o.tag.isEq then o.tl n else o)::(l++M)=_
 refine rwL e ?_;rfl
theorem oZ(h:Ce L)(M:ae Op):jG n (M++L)=M++L:=by
 obtain⟨l,o,rfl,e⟩:=h.t
 rw[<-bn,hJ,e];rfl
theorem t9(h:o.tag.isEq=am)(c:ae Op):k9 (c++[o])=ak:=by
 cases c with
 |nil=>show(!o.tag.isEq)=ak;refine rwL h ?_;rfl
 |cons x c=>cases c<;>rfl
theorem Ce.last(h:Ce L)(n:Int)(c:ae Op):∃ D d o,dd n c L=D++[d++[o]]/\o.tag.isEq=am:=by
 obtain⟨l,o,rfl,e⟩:=h.t
 refine xEE (dd_s n l c) λD d e2=>⟨D,d,o,?_,e⟩
 rw[sS n [o] l c e2,l7,big_ch e];rfl
theorem Ce.groups(h:Ce L)(n:Int):Mine.Internal.groups n L=dd n [] L:=by
 obtain⟨D,d,o,e,e2⟩:=h.last n []
 obtain⟨x,l,rfl,e3⟩:=h.h
 have:Mine.Internal.groups n (x::l)=grps n [] (jG n (kC n (x::l))):=rfl
 have a:=r7 (n:=n) h []
 rw[cw]at a
 have z:=oZ (n:=n) h []
 rw[kn]at z
 exact rwL this (rwL a (rwL z (rwL e (lB n _ _ e (t9 e2 d)))))
theorem Ce.fix(h:Ce L)(n:Int):cQ n L=L:=by
 obtain⟨x,l,e,e3⟩:=h.h
 have a:=r7 (n:=n) h []
 rw[cw]at a
 have z:=oZ (n:=n) h []
 rw[kn]at z
 subst e
 exact(rwL a (rwL z rfl):jG n (kC n (x::l))=_)
def kO(x y p q:Int):Op:=⟨.eq,x+p,x+q,y+p,y+q⟩
def hdP(p:ae Op)(G:ae (ae Op)):ae (ae Op):=(p++(G.head?).getD [])::G.tail
def laP(D:ae (ae Op))(o:Op):ae (ae Op):=D.dropLast++[(D.getLast?).getD []++[o]]
def g6(n:Int)(k:Nat)(x y:Int)(z:Nat)(G D:ae (ae Op)):ae (ae Op):=
 if 0<k/\(z:Int)<=2*n then D.dropLast++hdP ((D.getLast?).getD []++[kO x y (-z) 0]) G
 else if 0<z then(if 0<k then laP D (kO x y (-z) (n-z)) else D)++hdP [kO x y (-(min n z)) 0] G
 else D++G
def zU(n:Int)(x y:Int)(z:Nat)(D:ae (ae Op)):ae (ae Op):=if z=0 then D else laP D (kO x y 0 (min n z))
def mv(x y:Int)(n:Int)(L:ae Op):ae (ae Op):=(groups n L).map λg=>g.map (shO x y)
def sQ(n:Int):Nat->Int->Int->ae (ae Op)->ae Sgm->ae (ae Op)
 |_,_,_,D,[]=>D
 |k,x,y,D,s::l=>sQ n (k+1) (x+s.K.length+s.A.length) (y+s.K.length+s.B.length) (g6 n k (x+s.K.length) (y+s.K.length) s.K.length (mv (x+s.K.length) (y+s.K.length) n s.L) D) l
theorem uE(p g:ae Op)(G:ae (ae Op)):hdP p (g::G)=(p++g)::G:=rfl
theorem uA(D:ae (ae Op))(d:ae Op)(o:Op):laP (D++[d]) o=D++[d++[o]]:=by
 unfold laP
 refine rwL List.dropLast_concat (rwL List.getLast?_concat ?_);rfl
theorem xG(h:Ce L)(x y:Int):mv x y n L=dd n [] (L.map (shO x y)):=by
 unfold mv
 rw[h.groups,<-dd_sh];rfl
theorem aD8(c l:ae Op):∃ g G,dd n c l=g::G:=by
 refine xEE (dd_s n l c) λD d e=>rwL e ?_
 cases D with
 |nil=>exact⟨_,_,rfl⟩
 |cons g G=>exact⟨_,_,rfl⟩
theorem aFx(n0:0<=n)(h:Ce L){z:Nat}(k0:0<k)(z0:0<z)(e:dd n [] W=D++[d]):dd n [] (W++(⟨.eq,x-z,x,y-z,y⟩::L.map (shO x y)))=g6 n k x y z (mv x y n L) (D++[d]):=by
 rw[sS n _ W [] e,l7,xG h]
 refine xEE (aD8 (n:=n) [] (L.map (shO x y))) λg G eg=>?_
 have big:gN n ⟨.eq,x-z,x,y-z,y⟩=decide ((z:Int)>n+n):=by
  exact(rwL (show x-(x-(z:Int))=z by exact Yc104) rfl:decide (x-(x-z)>n+n)=_)
 unfold g6
 refine rwL big (rwL eg ?_)
 by_cases c:(z:Int)<=2*n
 ·rw[bo ⟨k0,c⟩,cc (Yc103 c),jq,List.dropLast_concat,List.getLast?_concat,uE]
  have:=wB n (d++[⟨.eq,x-z,x,y-z,y⟩]) _ [] eg
  rw[cw]at this
  refine rwL this ?_
  have ek:kO x y (-z) 0=⟨.eq,x-z,x,y-z,y⟩:=by
   unfold kO
   congr 1
   ·exact zZ
   ·exact zZ
  refine rwL ek ?_;rfl
 ·rw[bc (λq=>c q.2),bo z0,bo k0,ay (Yc102 c),fz,uA,uE]
  have:=wB n [(⟨.eq,x-z,x,y-z,y⟩:Op).tl n] _ [] eg
  rw[cw]at this
  refine rwL this ?_
  have e1:kO x y (-z) (n-z)=(⟨.eq,x-z,x,y-z,y⟩:Op).hd n:=by
   show Op.mk .eq (x+ -z) (x+(n-z)) (y+ -z) (y+(n-z))=Op.mk .eq (x-z) (min x (x-z+n)) (y-z) (min y (y-z+n))
   congr 1
   ·exact Yc101 c
   ·exact Yc101 c
  have e2:kO x y (-(min n z)) 0=(⟨.eq,x-z,x,y-z,y⟩:Op).tl n:=by
   show Op.mk .eq (x+ -(min n z)) (x+0) (y+ -(min n z)) (y+0)=Op.mk .eq (max (x-z) (x-n)) x (max (y-z) (y-n)) y
   congr 1
   ·exact Yc100
   ·exact zZ
   ·exact Yc100
   ·exact zZ
  rw[e1,e2,bn];rfl
structure Vz(n:Int)(V:ae Op)(G:ae (ae Op)):Prop where
 d:∃ D d,dd n [] V=D++[d]/\k9 d=ak
 e:dd n [] V=G
 l:∃ M L,V=M++L/\Ce L
theorem Vz.of(h:Ce L):Vz n (M++L) (dd n [] (M++L)):=by
 refine xEE (dd_s n M []) λD d e=>?_
 obtain⟨D',d',o,e2,e3⟩:=h.last n d
 have:=sS n L M [] e
 rw[e2,<-bn]at this
 exact⟨⟨_,_,this,t9 e3 d'⟩,rfl,_,_,rfl,h⟩
theorem eKt_p{z:Nat}(h:0<z):eKt (x-z) (y-z) z= [⟨.eq,x-z,x,y-z,y⟩]:=by
 unfold eKt
 refine rwL (bc (Yc124 h)) ?_
 have e1:x-(z:Int)+z=x:=Yc123
 have e2:y-(z:Int)+z=y:=Yc123
 exact rwL e1 (rwL e2 rfl)
theorem cdW_c(x y:Int)(s:Sgm)(l:ae Sgm):cdW x y (s::l)=eKt x y s.K.length++(s.L.map (shO (x+s.K.length) (y+s.K.length))++cdW (x+s.K.length+s.A.length) (y+s.K.length+s.B.length) l):=rfl
theorem aHb(n0:0<=n):∀ (l:ae Sgm){k:Nat}{x y:Int}{V:ae Op}{G:ae (ae Op)},0<k->Vz n V G->(∀ s∈l,Ce s.L/\0<s.K.length)->Vz n (V++cdW x y l) (sQ n k x y G l):=λl=>by
 induction l with
 |nil=>
  intro k x y V G k0 h _
  refine(?_:Vz n (V++[]) G)
  rw[cw];exact h
 |cons s l ih=>
  intro k x y V G k0 h hs
  refine xA (hs s be) λc z0=>?_
  obtain⟨D,d,e,_⟩:=h.d
  have st:=aFx n0 c (x:=x+s.K.length) (y:=y+s.K.length) k0 z0 e
  rw[<-e,h.e]at st
  have ek:=eKt_p (x:=x+s.K.length) (y:=y+s.K.length) z0
  rw[show x+(s.K.length:Int)-s.K.length=x by omega,show y+(s.K.length:Int)-s.K.length=y by omega]at st ek
  have v:Vz n (V++(eKt x y s.K.length++s.L.map (shO (x+s.K.length) (y+s.K.length)))) (g6 n k (x+s.K.length) (y+s.K.length) s.K.length (mv (x+s.K.length) (y+s.K.length) n s.L) G):=by
   refine rwR st (rwL ek ?_)
   show Vz n _ (dd n [] (V++([(⟨.eq,x,x+s.K.length,y,y+s.K.length⟩:Op)]++s.L.map (shO (x+s.K.length) (y+s.K.length)))))
   rw[<-bn]
   exact Vz.of (c.sh _ _)
  have:=ih (x:=x+s.K.length+s.A.length) (y:=y+s.K.length+s.B.length) (zp k) v λt ht=>hs t (bq _ ht)
  rw[cdW_c,<-bn (eKt x y s.K.length),<-bn]
  exact this
theorem fixA_W(n0:0<=n)(c:Ce s.L)(M:ae Op):∃ V,kC n (cdW 0 0 (s::l)++M)=V++(cdW (0+s.K.length+s.A.length) (0+s.K.length+s.B.length) l++M)/\Vz n V (g6 n 0 (0+s.K.length) (0+s.K.length) s.K.length (mv (0+s.K.length) (0+s.K.length) n s.L) []):=by
 have cs:=c.sh (0+s.K.length) (0+s.K.length)
 rw[cdW_c,xG c]
 refine xEE (aD8 (n:=n) [] (s.L.map (shO (0+s.K.length) (0+s.K.length)))) λg G eg=>?_
 unfold g6
 refine rwL (bc (λq=>Nat.lt_irrefl 0 q.1)) ?_
 by_cases z:0<s.K.length
 ·rw[bo z,bc (Nat.lt_irrefl 0),kn,eg,uE]
  have ek:=eKt_p (x:=0+s.K.length) (y:=0+s.K.length) z
  rw[show (0:Int)+s.K.length-s.K.length=0 by exact Yc122]at ek
  refine rwL ek ?_
  have e2:kO (0+s.K.length) (0+s.K.length) (-(min n s.K.length)) 0=(⟨.eq,0,0+s.K.length,0,0+s.K.length⟩:Op).tl n:=by
   show Op.mk .eq (0+(s.K.length:Int)+ -(min n s.K.length)) (0+(s.K.length:Int)+0) (0+(s.K.length:Int)+ -(min n s.K.length)) (0+(s.K.length:Int)+0)=Op.mk .eq (max 0 (0+(s.K.length:Int)-n)) (0+s.K.length) (max 0 (0+(s.K.length:Int)-n)) (0+s.K.length)
   have e3:(0:Int)+s.K.length+ -(min n s.K.length)=max 0 (0+(s.K.length:Int)-n):=Yc121
   have e4:(0:Int)+s.K.length+0=0+s.K.length:=Yc120
   exact rwL e3 (rwL e4 rfl)
  refine⟨[(⟨.eq,0,0+s.K.length,0,0+s.K.length⟩:Op).tl n]++s.L.map (shO (0+s.K.length) (0+s.K.length)),?_,?_⟩
  ·rw[bn,bn,bn];rfl
  ·have:=wB n [(⟨.eq,0,0+s.K.length,0,0+s.K.length⟩:Op).tl n] _ [] eg
   rw[cw]at this
   have v:=Vz.of (n:=n) (M:=[(⟨.eq,0,0+s.K.length,0,0+s.K.length⟩:Op).tl n]) cs
   have b:dd n [] ([(⟨.eq,0,0+s.K.length,0,0+s.K.length⟩:Op).tl n]++s.L.map (shO (0+s.K.length) (0+s.K.length)))=dd n [(⟨.eq,0,0+s.K.length,0,0+s.K.length⟩:Op).tl n] (s.L.map (shO (0+s.K.length) (0+s.K.length))):=by
    show dd n [] (_::_)=_
    rw[l7,big_tl n0];rfl
   rw[b,this]at v
   exact rwL e2 v
 ·refine rwL (bc z) ?_
  have z':s.K.length=0:=aFb z
  have:eKt 0 0 s.K.length= []:=by unfold eKt;exact rwL (bo z') rfl
  rw[this,kn,bn]
  exact⟨_,r7 cs _,Vz.of (M:=[]) cs⟩
theorem uH(n0:0<=n)(c:∀ t∈s::l,Ce t.L)(p:∀ t∈l,0<t.K.length)(x y:Int)(z:Nat):groups n (cdW 0 0 (s::l)++eKt x y z)=zU n x y z (sQ n 0 0 0 [] (s::l))/\groups n (cdW 0 0 (s::l)++eKt x y z)=dd n [] (cQ n (cdW 0 0 (s::l)++eKt x y z)):=by
 refine xEA (fixA_W n0 (l:=l) (c s be) (eKt x y z)) λV e v=>?_
 have v2:=aHb n0 l (k:=1) (x:=0+s.K.length+s.A.length) (y:=0+s.K.length+s.B.length) Nat.one_pos v λt ht=>⟨c t (bq _ ht),p t ht⟩
 have ne:cdW 0 0 (s::l)++eKt x y z≠ []:=λq=>by
  have:=ei List.length e
  rw[o9,q]at this
  obtain⟨D,d,e2,e3⟩:=v2.d
  rw[<-bn,af]at this
  have h0:V++cdW (0+s.K.length+s.A.length) (0+s.K.length+s.B.length) l= []:=dq (by
   have:0=_:=this
   exact Yc118 this)
  obtain⟨M,L,e4,c4⟩:=v2.l
  obtain⟨o,r,e5,_⟩:=c4.h
  rw[h0,e5]at e4
  exact bw e4.symm (by simp)
 refine rwL (oV ne) ?_
 have f:cQ n (cdW 0 0 (s::l)++eKt x y z)=jG n (kC n (cdW 0 0 (s::l)++eKt x y z)):=by
  generalize cdW 0 0 (s::l)++eKt x y z=W at ne
  cases W with
  |nil=>exact bw rfl ne
  |cons=>rfl
 rw[f,e,<-bn]
 show _=zU n x y z (sQ n 1 (0+s.K.length+s.A.length) (0+s.K.length+s.B.length) _ l)/\_
 generalize V++cdW (0+s.K.length+s.A.length) (0+s.K.length+s.B.length) l=V2 at v2
 generalize sQ n 1 (0+s.K.length+s.A.length) (0+s.K.length+s.B.length) _ l=G at v2
 obtain⟨D,d,e2,e3⟩:=v2.d
 have eG:=v2.e
 obtain⟨M,L,e4,c4⟩:=v2.l
 unfold zU eKt
 by_cases q:z=0
 ·rw[bo q,bo q,cw,<-eG,e2,e4,oZ c4]
  rw[e4]at e2
  exact⟨lB n _ _ e2 e3,(lB n _ _ e2 e3).trans e2.symm⟩
 ·rw[bc q,bc q,hJ,<-eG,e2,uA]
  have b:gN n ((⟨.eq,x,x+z,y,y+z⟩:Op).hd n)=am:=wO n0
  have e5:=sS n [(⟨.eq,x,x+z,y,y+z⟩:Op).hd n] V2 [] e2
  rw[l7,b,jq,dd_n]at e5
  have e6:kO x y 0 (min n z)=(⟨.eq,x,x+z,y,y+z⟩:Op).hd n:=by
   show Op.mk .eq (x+0) (x+min n z) (y+0) (y+min n z)=Op.mk .eq x (min (x+z) (x+n)) y (min (y+z) (y+n))
   congr 1
   ·exact zZ
   ·exact Yc117
   ·exact zZ
   ·exact Yc117
  exact rwL e6 ⟨lB n _ _ e5 (oP e3 _),(lB n _ _ e5 (oP e3 _)).trans e5.symm⟩
def chF(l:ae Op):ae Op:=l.filter λo=> !o.tag.isEq
theorem iJ(l m:ae Op):chF (l++m)=chF l++chF m:=List.filter_append ..
theorem kJ(h:o.tag.isEq=ak):chF [o]= []:=by unfold chF;refine rwL List.filter_cons (rwL h ?_);rfl
theorem aEk(o:Op)(n:Int):chF [hdE n o]=chF [o]:=by
 cases e:o.tag.isEq with
 |false=>unfold hdE;refine rwL e ?_;rfl
 |true=>exact rwL (kJ e) (rwL (kJ (by rw[hdE_t];exact e)) rfl)
theorem aEj(o:Op)(n:Int):chF [tlE n o]=chF [o]:=by
 cases e:o.tag.isEq with
 |false=>unfold tlE;refine rwL e ?_;rfl
 |true=>exact rwL (kJ e) (rwL (kJ (by rw[tlE_t];exact e)) rfl)
theorem aEm(o:Op)(l:ae Op):chF (o::l)=chF [o]++chF l:=iJ [o] l
theorem chF_dd(n:Int):∀ (l c:ae Op),chF (dd n c l).flatten=chF c++chF l:=λl=>by
 induction l with
 |nil=>
  intro c
  refine(?_:chF (c++[])=_)
  rw[cw];exact(cw _).symm
 |cons o l ih=>
  intro c
  rw[l7,aEm o l]
  cases q:gN n o with
  |false=>rw[jq,ih,iJ,bn]
  |true=>
   have e:o.tag.isEq=ak:=(dp.mp q).1
   rw[fz,we,iJ,iJ,ih,kJ (o:=o.hd n) e,kJ (o:=o.tl n) e,kJ e,cw]
theorem aEl(n:Int)(l:ae Op):chF (cQ n l)=chF l:=by
 cases l with
 |nil=>rfl
 |cons o l=>
  rcases kx l with rfl |⟨L,z,rfl⟩
  ·rw[r6,aEk,aEj]
  ·rw[jj,rZ,aEm,aEm o,aEj,iJ,iJ,aEk]
theorem wJ(n0:0<=n)(c:∀ t∈s::l,Ce t.L)(p:∀ t∈l,0<t.K.length)(x y:Int)(z:Nat):chF (groups n (cdW 0 0 (s::l)++eKt x y z)).flatten=chF (cdW 0 0 (s::l)++eKt x y z):=by
 rw[(uH n0 c p x y z).2,chF_dd,aEl];rfl
theorem uG(n0:0<=n)(z:Nat):groups n (eKt 0 0 z)= []:=by
 unfold eKt
 by_cases q:z=0
 ·rw[bo q]
  show grps n [] [((⟨.eq,0,1,0,1⟩:Op).tl n).hd n]= []
  rw[oU,wO n0];rfl
 ·rw[bc q]
  show grps n [] [((⟨.eq,0,0+(z:Int),0,0+(z:Int)⟩:Op).tl n).hd n]= []
  rw[oU,wO n0];rfl
theorem Cod.lastE(hz:z.tag.isEq=ak):∀ {l:ae Op}{f:aj fq}{i j:Int},Cod a b f i j (l++[z])->0<=i->0<=j->0<a.length/\0<b.length/\av a (a.length-1)=av b (b.length-1):=λ{l}=>by
 induction l with
 |nil=>
  intro f i j C i0 j0
  cases C.inv with
  |ch _ hg=>rw[show (chO _ i j _ _).tag=_ from rfl]at hz;exact bw (hz.symm.trans hg) nofun
  | @eq k _ hf p m h=>
   have e:=h.end rfl
   have:=m (k-1) (Yc40 p) Yc39
   rw[show i+(k-1)=a.length-1 by exact Yc116 e,show j+(k-1)=b.length-1 by exact Yc115 e]at this
   exact⟨Yc114 i0 p e,Yc113 j0 p e,this⟩
 |cons o l ih=>
  intro f i j C i0 j0
  have C:Cod a b f i j (o::(l++[z])):=C
  cases C.inv with
  |ch _ _ hi hj h=>exact ih h (Yc112 i0 hi) (Yc112 j0 hj)
  |eq _ p _ h=>exact ih h (Yc111 i0 p) (Yc111 j0 p)
theorem vA.ce(O:vA cl c s):Ce s.L:=by
 have C:=O.o.cod
 have a0:=O.a0
 have bl:=O.bl
 generalize s.L=L at C
 refine⟨?_,?_⟩
 ·cases L with
  |nil=>
   have:=(C.end rfl).1
   exact(Yc109 a0.1 this).elim
  |cons o l=>
   refine⟨o,l,rfl,?_⟩
   cases C.inv with
   |ch _ hg=>exact hg
   | @eq k _ hf p m h=>
    exfalso
    have:=m 0 (dj _) p
    rw[pb]at this
    exact a0.2 (this▸jK (dj 0) (aFc bl.1))
 ·rcases kx L with rfl |⟨l,z,rfl⟩
  ·have:=(C.end rfl).1
   exact(Yc109 a0.1 this).elim
  ·rw[jj]at C
   refine⟨l,z,jj,?_⟩
   cases e:z.tag.isEq with
   |false=>rfl
   |true=>
    have:=C.lastE e (dj _) (dj _)
    exact bw (this.2.2▸jK (Yc108 this) Yc26) bl.2
theorem aHh(la:a.length<1000)(lb:b.length<1000)(O:WOk a b w):∀ (n:Nat) (i j k:Int),In a b w i j k->0<k->(1000-k)*1000000+i*1000+j<=n->∃ i j k,Best a b w i j k/\0<k:=λn=>by
 induction n with
 |zero=>
  intro i j k h k0 e
  have i0:=h.i0;have i1:=h.i1;have j0:=h.j0;have j1:=h.j1;have a0:=O.a0;have b0:=O.b0;have a2:=O.a2
  omega
 |succ n ih=>
  intro i j k h k0 e
  by_cases q:∀ i' j' k',In a b w i' j' k'->0<k'->Ge i j k i' j' k'
  ·exact⟨i,j,k,⟨h,λz=>bw k0 (z▸ja _),q⟩,k0⟩
  ·simp only[Classical.not_forall]at q
   obtain⟨i',j',k',h',k0',g⟩:=q
   have i0:=h'.i0;have i1:=h'.i1;have j0:=h'.j0;have j1:=h'.j1;have a0:=O.a0;have b0:=O.b0;have a2:=O.a2;have b2:=O.b2
   have i0:=h.i0;have i1:=h.i1;have j0:=h.j0;have j1:=h.j1
   refine ih i' j' k' h' k0' ?_
   unfold Ge at g
   omega
theorem Best.ex(la:a.length<1000)(lb:b.length<1000)(O:WOk a b w):∃ i j k,Best a b w i j k:=by
 by_cases q:∃ i j k,In a b w i j k/\0<k
 ·obtain⟨i,j,k,h,k0⟩:=q
  obtain⟨i',j',k',B,_⟩:=aHh la lb O ((1000-k)*1000000+i*1000+j).toNat i j k h k0 Yc129
  exact⟨i',j',k',B⟩
 ·exact⟨w.al,w.bl,0,⟨⟨dj _,by have:=O.a1;exact Yc128 this,dj _,by have:=O.b1;exact Yc128 this,dj _,λt t0 t1=>Yc127 t0 t1⟩,λc=>⟨rfl,rfl⟩,λi j k h k0=>bw ⟨i,j,k,h,k0⟩ q⟩⟩
theorem Run.ex(la:a.length<1000)(lb:b.length<1000):∀ (n:Nat) (q:ae Wd) (m:ae T3),mu q<=n->(∀ v∈q,WOk a b v)->∃ r,Run a b q m r:=λn=>by
 induction n with
 |zero=>
  intro q m h _
  have:q= []:=dq (Nat.le_zero.mp (Nat.le_trans (rH q) h))
  exact rwL this ⟨m,.nil⟩
 |succ n ih=>
  intro q m h hq
  cases q with
  |nil=>exact⟨m,.nil⟩
  |cons w q=>
   obtain⟨i,j,k,B⟩:=Best.ex la lb (hq w be)
   have k0:=B.n.k0
   rcases pi k0 with p |p
   ·have ms:=aB0 B p q
    obtain⟨r,R⟩:=ih (iY w i j k (gW w i j q)) (m++[⟨i,j,k⟩]) (Yc126 h ms) (q8 (hq w be) B λv hv=>hq v (bq _ hv))
    exact⟨r,.pos B p R⟩
   ·have wz:mu (w::q)=wsz w+mu q:=rfl
    have w1:1<=wsz w:=ph 1 _
    obtain⟨r,R⟩:=ih q m (Yc125 h wz w1) λv hv=>hq v (bq _ hv)
    subst p
    exact⟨r,.zero B R⟩
theorem Ops.ex(la:a.length<1000)(lb:b.length<1000):∃ l,Ops a b l:=by
 refine xE (Run.ex la lb _ [⟨0,a.length,0,b.length⟩] [] (Nat.le_refl _) λv hv=>rwL (cq.mp hv) ⟨dj _,ee _,dj _,dj _,ee _,dj _⟩) λr R=>?_
 exact⟨_,_,⟨r,R,rfl⟩,rfl⟩
structure Cpt(H:MH)(rc rb:Nat)(cs:ae Ch)(bs:ae (Nat×ae Int)):Prop where
 h:H[rc]? =aa (.list (cs.map Ch.v))
 hb:H[rb]? =aa (.list (bs.map rv))
 hc:∀ c∈cs,H[c.p]? =aa (.list [.ref c.a,.ref c.b])/\H[c.a]? =aa (.list (c.A.map V.int))/\H[c.b]? =aa (.list (c.B.map V.int))
 hs:HB iL_ H bs
 n:cs.length=bs.length+1
 n5:cs.length<=5
 c:∀ (j:Nat) c,cs[j]? =aa c->CEn j c
 s:∀ (k:Nat) s,bs[k]? =aa s->0<s.2.length/\s.2.length<=17/\∀ v∈s.2,1000+20*(k:Int)<=v/\v<1020+20*(k:Int)
 sz:szc cs<=cs.length+66
 sd:szd cs<=2*cs.length+66
theorem Cpt.hx(D:Cpt B rc rb cs bs)(x:Hx B H):Cpt H rc rb cs bs:=⟨x _ _ D.h,x _ _ D.hb,λc hc=>⟨x _ _ (D.hc c hc).1,x _ _ (D.hc c hc).2.1,x _ _ (D.hc c hc).2.2⟩,D.hs.hx x,D.n,D.n5,D.c,D.s,D.sz,D.sd⟩
theorem law_0(hs:lo "script" =aa (.ref rs))(h:LI H rs sc)(hl:sc.length<=63)(k:∀ {H' rc rb cs bs},Hx H H'->Cpt H' rc rb cs bs->K .next (upd (upd lo "chapters" (.ref rc)) "between" (.ref rb)) H'):yE X lo H K:=by
 have lm:(sc.map V.int).length=sc.length:=ar ..
 refine lP (bS (aJ (aI (eL_i (aJ (bK (aJ (bK (aJ (bK (bD (aB2 (show 3<1000000 by decide) (aP hs (w7 (vs:=[4,31,0].map V.int) (jC _ _) ((Hx.app _ _).lst h) (rwL lm (Yc234 hl:3+sc.length<1000000)) (bD (rwR au (uY X (ns:=[4,31,0]++sc) (jC _ _) (rwL af (Yc233 hl:3+sc.length<100)) λ{H' rc rb cs bs} D n n5 c s sz sd=>?_)))))))))))))))))
 rw[af]at sz sd
 have sz:szc cs<=cs.length+(3+sc.length):=sz
 have sd:szd cs<=2*cs.length+(3+sc.length):=sd
 exact kch (B:=(2=2/\K .next (upd (upd lo "chapters" (.ref rc)) "between" (.ref rb)) H')) ⋯ ⟨rfl,k (((Hx.app _ _).trans (.app _ _)).trans D.hx) ⟨D.h,D.hb,D.hc,D.hs,n,n5,c,s,Yc232 hl sz,Yc231 hl sd⟩⟩
theorem law_1(hs:lo "script" =aa (.ref rs))(h:LI H rs sc)(k:∀ t:Int,K .next (upd lo "total" (.int t)) H):yD X lo H K:=eV (bS (aJ (aP hs (bD (sum_i h (k _))))))
structure KP(kp:ae (Nat×ae Int))(bs:ae (Nat×ae Int))(c0 c1:Nat):Prop where
 e:∃ p q,kp=(p,bX 2000 c0)::(bs++[(q,bX 3000 c1)])
 b0:c0<10
 b1:c1<10
theorem law_2(gb:lo "between" =aa (.ref rb))(gt:lo "total" =aa (.int t))(D:Cpt H rc rb cs bs)(k:∀ {H' rk kp c0 c1},Hx H H'->H'[rk]? =aa (.list (kp.map rv))->HB iL_ H' kp->KP kp bs c0 c1->K .next (upd lo "kept" (.ref rk)) H'):yC X lo H K:=by
 have t0:0<=t%10:=vg _ (by decide)
 have t1:t%10<10:=Int.emod_lt_of_pos _ (by decide)
 have u0:0<=t/10%10:=vg _ (by decide)
 have u1:t/10%10<10:=Int.emod_lt_of_pos _ (by decide)
 have n:=D.n
 have n5:=D.n5
 refine eV (aI (aI (pH (rng_e (c:=(t%10).toNat) .k (.bin .k (.bin (.n gt) .k (oH (by decide))) aE3) (Yc230 zzN zzL) (Yc229 zzN zzL) (Yc225 zzN zzL) (j9 (aP gb (fX (aV _ _) (((Hx.app _ _).trans (.app _ _)) _ _ D.hb) (by rw[ar];exact(Yc228 n n5:1+bs.length<1000000)) ?_)))))))
 have a0:=((Hx.app (H++[MO.list ((bX 2000 (t%10).toNat).map V.int)]) [MO.list [.ref H.length]]).trans (.app _ [MO.list ([.ref H.length]++bs.map rv)])) _ _ (aV H (MO.list ((bX 2000 (t%10).toNat).map V.int)))
 have x1:Hx H (H++[MO.list ((bX 2000 (t%10).toNat).map V.int)]++[MO.list [.ref H.length]]++[MO.list ([.ref H.length]++bs.map rv)]):=((Hx.app _ _).trans (.app _ _)).trans (.app _ _)
 have l1:=aV (H++[MO.list ((bX 2000 (t%10).toNat).map V.int)]++[MO.list [.ref H.length]]) (MO.list ([.ref H.length]++bs.map rv))
 revert a0 x1 l1
 generalize H++[MO.list ((bX 2000 (t%10).toNat).map V.int)]++[MO.list [.ref H.length]]++[MO.list ([.ref H.length]++bs.map rv)]=H1
 generalize (H++[MO.list ((bX 2000 (t%10).toNat).map V.int)]++[MO.list [.ref H.length]]).length=r1
 intro a0 x1 l1
 refine pH (rng_e (c:=(t/10%10).toNat) .k (.bin .k (.bin (.bin (.n gt) .k (aD6 (by decide))) .k (oH (by decide))) aE3) (Yc227 zzN zzL) (Yc226 zzN zzL) (Yc225 zzN zzL) (j9 (fX (((Hx.app _ _).trans (.app _ _)) _ _ l1) (aV _ _) ?_ (k (c0:=(t%10).toNat) (c1:=(t/10%10).toNat) (kp:=(H.length,bX 2000 (t%10).toNat)::(bs++[(H1.length,bX 3000 (t/10%10).toNat)])) ?_ ?_ ?_ ⟨⟨_,_,rfl⟩,Yc224 zzN zzL,Yc224 zzN zzL⟩))))
 ·rw[af,ar];exact(Yc223 n n5:1+bs.length+1<1000000)
 ·exact x1.trans (((Hx.app _ _).trans (.app _ _)).trans (.app _ _))
 ·exact rwL fp (rwL au (aV _ _))
 ·have x2:Hx H1 _:=((Hx.app H1 [MO.list ((bX 3000 (t/10%10).toNat).map V.int)]).trans (.app _ [MO.list [.ref H1.length]])).trans (.app _ [MO.list ([.ref H.length]++bs.map rv++[.ref H1.length])])
  intro p hp
  rcases cy.mp hp with rfl |hp
  ·exact x2 _ _ a0
  ·rcases cu.mp hp with hp |hp
   ·exact x2 _ _ (x1 _ _ (D.hs p hp))
   ·exact rwL (cq.mp hp) (((Hx.app (H1++[MO.list ((bX 3000 (t/10%10).toNat).map V.int)]) [MO.list [.ref H1.length]]).trans (.app _ [MO.list ([.ref H.length]++bs.map rv++[.ref H1.length])])) _ _ (aV H1 (MO.list ((bX 3000 (t/10%10).toNat).map V.int))))
theorem law_3(k:K .next (upd (upd (upd lo "places" (.ref (H++[MO.list []]++[MO.list []]).length)) "second" (.ref (H++[MO.list []]).length)) "first" (.ref H.length)) (H++[MO.list []]++[MO.list []]++[MO.list []])):yB X lo H K:=m9 (fP (aJ (jD (aJ (jD (aJ (jD (bD ⟨(show 3<100 by decide),Lf.mk rfl ⟨rfl,Lf.mk rfl k⟩⟩))))))))
def ocd(A B:ae Int):ae Op:= @Classical.epsilon (ae Op) ⟨[]⟩ λl=>Ops A B l
theorem ocd_ok(la:A.length<1000)(lb:B.length<1000):Ops A B (ocd A B):=Classical.epsilon_spec (Ops.ex la lb)
def sgs(kp:ae (Nat×ae Int))(cs:ae Ch):ae Sgm:=(kp.zip cs).map λq=>⟨q.1.2,q.2.A,q.2.B,ocd q.2.A q.2.B⟩
theorem sgs_at{k:Nat}(h1:kp[k]? =aa q)(h2:cs[k]? =aa c):(sgs kp cs)[k]? =aa ⟨q.2,c.A,c.B,ocd c.A c.B⟩:=by
 unfold sgs
 have z:(kp.zip cs)[k]? =aa (q,c):=List.getElem?_zip_eq_some.mpr ⟨h1,h2⟩
 refine rwL jm (rwL z ?_);rfl
theorem m8(h:kp.length=cs.length+1):(sgs kp cs).length=cs.length:=by
 unfold sgs
 rw[ar,List.length_zip];exact Yc248 h
theorem q9{k:Nat}(h:(sgs kp cs)[k]? =aa s):∃ q c,kp[k]? =aa q/\cs[k]? =aa c/\s=⟨q.2,c.A,c.B,ocd c.A c.B⟩:=by
 unfold sgs at h
 rw[jm]at h
 refine xEA (dy.mp h) λz h1 h2=>?_
 have:=List.getElem?_zip_eq_some.mp h1
 exact⟨z.1,z.2,this.1,this.2,h2.symm⟩
def plc:Int->Int->ae Sgm->ae (Int×Int)
 |_,_,[]=>[]
 |x,y,s::l=>(x+s.K.length,y+s.K.length)::plc (x+s.K.length+s.A.length) (y+s.K.length+s.B.length) l
theorem fsL_s(l:ae Sgm)(s:Sgm):fsL (l++[s])=fsL l++(s.K++s.A):=by
 unfold fsL
 rw[kj,List.flatMap_singleton]
theorem snL_s(l:ae Sgm)(s:Sgm):snL (l++[s])=snL l++(s.K++s.B):=by
 unfold snL
 rw[kj,List.flatMap_singleton]
theorem plc_s(s:Sgm):∀ (l:ae Sgm) (x y:Int),plc x y (l++[s])=plc x y l++[(x+(fsL l).length+s.K.length,y+(snL l).length+s.K.length)]:=λl=>by
 induction l with
 |nil=>
  intro x y
  refine(?_:[(x+(s.K.length:Int),y+(s.K.length:Int))]= []++[(x+((0:Nat):Int)+s.K.length,y+((0:Nat):Int)+s.K.length)])
  rw[Int.natCast_zero,pb,pb];rfl
 |cons t l ih=>
  intro x y
  have e1:(fsL (t::l)).length=t.K.length+t.A.length+(fsL l).length:=by rw[aDh,af,af]
  have e2:(snL (t::l)).length=t.K.length+t.B.length+(snL l).length:=by rw[aA3,af,af]
  show(x+(t.K.length:Int),y+(t.K.length:Int))::plc _ _ (l++[s])=_
  rw[ih,e1,e2]
  refine ei (λz=>_::(_++[z])) (Prod.ext (Yc247:x+(t.K.length:Int)+t.A.length+(fsL l).length+s.K.length=x+((t.K.length+t.A.length+(fsL l).length:Nat):Int)+s.K.length) ?_)
  ·exact(Yc247:y+(t.K.length:Int)+t.B.length+(snL l).length+s.K.length=y+((t.K.length+t.B.length+(snL l).length:Nat):Int)+s.K.length)
theorem w8:∀ (l:ae Sgm) (x y:Int),(plc x y l).length=l.length:=λl=>by
 induction l with
 |nil=>exact λq q=>rfl
 |cons s l ih=>intro x y;exact ei Nat.succ (ih _ _)
theorem len_fs:∀ (l:ae Sgm),(fsL l).length=(l.map λs=>s.K.length).sum+(l.map λs=>s.A.length).sum:=λl=>by
 induction l with
 |nil=>rfl
 |cons s l ih=>
  rw[aDh,af,af,fp,fp,xi,xi,ih];exact Yc246
theorem len_sn:∀ (l:ae Sgm),(snL l).length=(l.map λs=>s.K.length).sum+(l.map λs=>s.B.length).sum:=λl=>by
 induction l with
 |nil=>rfl
 |cons s l ih=>
  rw[aA3,af,af,fp,fp,xi,xi,ih];exact Yc246
structure Dat(H:MH)(rc rk:Nat)(cs:ae Ch)(kp:ae (Nat×ae Int)):Prop where
 h:H[rc]? =aa (.list (cs.map Ch.v))
 hc:∀ c∈cs,H[c.p]? =aa (.list [.ref c.a,.ref c.b])/\H[c.a]? =aa (.list (c.A.map V.int))/\H[c.b]? =aa (.list (c.B.map V.int))
 hk:H[rk]? =aa (.list (kp.map rv))
 hq:HB iL_ H kp
 n:kp.length=cs.length+1
 n5:cs.length<=5
theorem Dat.hx(D:Dat B rc rk cs kp)(x:Hx B H):Dat H rc rk cs kp:=⟨x _ _ D.h,λc hc=>⟨x _ _ (D.hc c hc).1,x _ _ (D.hc c hc).2.1,x _ _ (D.hc c hc).2.2⟩,x _ _ D.hk,D.hq.hx x,D.n,D.n5⟩
def fF(r1 r2 rp rc rk:Nat):ae (Str×V):=[("first",.ref r1),("second",.ref r2),("places",.ref rp),("chapters",.ref rc),("kept",.ref rk)]
def pB:SF:=(aB (cS ["first","second"] (bE (esC (aA aH (eN "first") (aA aQ (eN "kept") (eN "k"))) (esC (aA aH (eN "second") (aA aQ (eN "kept") (eN "k"))) esN)))) (aB (aW (b9 (eN "places") (bE (esC (aL bY (esC (eN "first") esN)) (esC (aL bY (esC (eN "second") esN)) esN))))) (aB (cS ["first","second"] (bE (esC (aA aH (eN "first") (aA aQ (aA aQ (eN "chapters") (eN "k")) (eK (.int 0)))) (esC (aA aH (eN "second") (aA aQ (aA aQ (eN "chapters") (eN "k")) (eK (.int 1)))) esN)))) (sK .next))))
inductive L4(B:MH)(rc rk rp:Nat)(cs:ae Ch)(kp:ae (Nat×ae Int))(x:Int)(lo:Lo)(H:MH):Prop
 |mk {k r1 r2:Nat} (ex:x=(k:Nat)) (F:Fs (fF r1 r2 rp rc rk) lo) (hx:Hx B H) (h1:H[r1]? =aa (.list ((fsL ((sgs kp cs).take k)).map V.int))) (h2:H[r2]? =aa (.list ((snL ((sgs kp cs).take k)).map V.int))) (h3:H[rp]? =aa (.list ((plc 0 0 ((sgs kp cs).take k)).map pv))):L4 B rc rk rp cs kp x lo H
theorem vG(segs:ae Sgm)(k:Nat):(fsL (segs.take k)).length<=(fsL segs).length/\(snL (segs.take k)).length<=(snL segs).length:=by
 have e:=List.take_append_drop k segs
 have e1:fsL segs=fsL (segs.take k)++fsL (segs.drop k):=by
  conv=>lhs;rw[<-e]
  exact kj ..
 have e2:snL segs=snL (segs.take k)++snL (segs.drop k):=by
  conv=>lhs;rw[<-e]
  exact kj ..
 exact rwL e1 (rwL e2 (rwL af (rwL af ⟨pu _ _,pu _ _⟩)))
theorem p_step{x:Int}(D:Dat B rc rk cs kp)(bp:B[rp]? =none)(l1:(fsL (sgs kp cs)).length<10000)(l2:(snL (sgs kp cs)).length<10000)(xN:x<cs.length)(I:L4 B rc rk rp cs kp x lo H)(go:GoK (L4 B rc rk rp cs kp (x+1)) Q K):aN "k" (.int x) lo H λlo1 H1=>pB lo1 H1 K:=by
 cases I with
 | @mk k r1 r2 ex F hx h1 h2 h3=>
 subst ex
 have n:=D.n
 have n5:=D.n5
 have kl:k<cs.length:=Yc245 xN
 have kk:k<kp.length:=Yc244 n kl
 have ec:=df kl
 have eq:=df kk
 revert ec eq
 generalize cs[k]=c
 generalize kp[k]=q
 intro ec eq
 have es:=sgs_at eq ec
 have et:(sgs kp cs).take (k+1)=(sgs kp cs).take k++[⟨q.2,c.A,c.B,ocd c.A c.B⟩]:=by
  refine xE (List.getElem?_eq_some_iff.mp es) λhl e=>?_
  exact rwR e (List.take_succ_eq_append_getElem hl)
 have lt:=vG (sgs kp cs) (k+1)
 have ef:=fsL_s ((sgs kp cs).take k) ⟨q.2,c.A,c.B,ocd c.A c.B⟩
 have en:=snL_s ((sgs kp cs).take k) ⟨q.2,c.A,c.B,ocd c.A c.B⟩
 have ep:=plc_s ⟨q.2,c.A,c.B,ocd c.A c.B⟩ ((sgs kp cs).take k) 0 0
 rw[<-et]at ef en ep
 rw[ef,en,af,af,af,af]at lt
 have lf:((sgs kp cs).take k).length=k:=by exact rwL List.length_take (rwL (m8 n) (Yc221 kl))
 have lp:=w8 ((sgs kp cs).take k) 0 0
 rw[lf]at lp
 revert ef en ep lt lp h1 h2 h3
 generalize fsL ((sgs kp cs).take k)=f
 generalize snL ((sgs kp cs).take k)=s
 generalize plc 0 0 ((sgs kp cs).take k)=p
 intro h1 h2 h3 lt ef en ep lp
 have ef:fsL ((sgs kp cs).take (k+1))=f++(q.2++c.A):=ef
 have en:snL ((sgs kp cs).take (k+1))=s++(q.2++c.B):=en
 have lt:f.length+(q.2.length+c.A.length)<=(fsL (sgs kp cs)).length/\s.length+(q.2.length+c.B.length)<=(snL (sgs kp cs)).length:=lt
 have G:=F.cons "k" (nv k)
 refine(?_:pB (upd lo "k" (nv k)) H K)
 revert G
 generalize upd lo "k" (nv k)=lo1
 intro G
 have hqv:(kp.map rv)[k]? =aa (.ref q.1):=by refine rwL jm (rwL eq ?_);rfl
 have hcv:(cs.map Ch.v)[k]? =aa (.ref c.p):=by refine rwL jm (rwL ec ?_);rfl
 have hq:=D.hq q (dm eq)
 have hc:=D.hc c (dm ec)
 have gk:=G ("k" :Str) (nv k) ⋯
 have lmk:(kp.map rv).length<100000:=by rw[ar];exact Yc243 n n5
 have lmc:(cs.map Ch.v).length<100000:=by rw[ar];exact aE8 n5
 refine aO (m9 (fP (aJ (aI (aP (G _ (.ref r1) ⋯) (aI (aP (G _ (.ref rk) ⋯) (aP gk (at_k (hx _ _ D.hk) hqv lmk (fX h1 (hx _ _ hq) (by rw[ar];unfold iL_;rw[ar];exact Yc242 l1 lt) (aJ (aI (aP (G _ (.ref r2) ⋯) (aI (aP (G _ (.ref rk) ⋯) (aP gk (at_k (Hx.app _ _ _ _ (hx _ _ D.hk)) hqv lmk (fX (Hx.app _ _ _ _ h2) (Hx.app _ _ _ _ (hx _ _ hq)) (by rw[ar];unfold iL_;rw[ar];exact Yc241 l2 lt) (bD ⟨(show 2<100 by decide),Lf.mk rfl ⟨rfl,Lf.mk rfl (aS ?_)⟩⟩)))))))))))))))))))
 have e1:f.map V.int++iL_ q.2=(f++q.2).map V.int:=by refine rwL au ?_;rfl
 have e2:s.map V.int++iL_ q.2=(s++q.2).map V.int:=by refine rwL au ?_;rfl
 refine rwL e1 (rwL e2 ?_)
 have G2:=(G.cons "second" (.ref (H++[MO.list ((f++q.2).map V.int)]).length)).cons "first" (.ref H.length)
 have x1:Hx H (H++[MO.list ((f++q.2).map V.int)]++[MO.list ((s++q.2).map V.int)]):=(Hx.app _ _).trans (.app _ _)
 have g1:=(Hx.app (H++[MO.list ((f++q.2).map V.int)]) [MO.list ((s++q.2).map V.int)]) _ _ (aV H (MO.list ((f++q.2).map V.int)))
 have g2:=aV (H++[MO.list ((f++q.2).map V.int)]) (MO.list ((s++q.2).map V.int))
 have n1:=aM H
 have n2:H[(H++[MO.list ((f++q.2).map V.int)]).length]? =none:=(Hx.app H [MO.list ((f++q.2).map V.int)]).fresh
 revert G2 x1 g1 g2 n1 n2
 generalize upd (upd lo1 "second" (.ref (H++[MO.list ((f++q.2).map V.int)]).length)) "first" (.ref H.length)=lo2
 generalize H++[MO.list ((f++q.2).map V.int)]++[MO.list ((s++q.2).map V.int)]=H2
 generalize (H++[MO.list ((f++q.2).map V.int)]).length=q2
 generalize H.length=q1
 intro G2 x1 g1 g2 n1 n2
 have np1:rp≠q1:=λz=>aF (n1.symm.trans (z▸h3))
 have np2:rp≠q2:=λz=>aF (n2.symm.trans (z▸h3))
 have hx2:=hx.trans x1
 refine aO (wQ (G2 _ (.ref rp) ⋯) (x1 _ _ h3) (fP (aJ (oK (G2 _ (.ref q1) ⋯) (aR g1) (by rw[ar,af];exact Yc240 l1 lt) (aJ (oK (G2 _ (.ref q2) ⋯) (aR g2) (by rw[ar,af];exact Yc239 l2 lt) (bD ⟨(show 2<100 by decide),jL (x1 _ _ h3) (by rw[ar];exact Yc238 n5 kl lp) (aS ?_)⟩)))))))
 rw[ar,ar]
 have h3':=aK (x1 _ _ h3) (MO.list (p.map pv++[.tup [.int ((f++q.2).length:Nat),.int ((s++q.2).length:Nat)]]))
 have g1':=aE (m':=MO.list (p.map pv++[.tup [.int ((f++q.2).length:Nat),.int ((s++q.2).length:Nat)]])) g1 np1
 have g2':=aE (m':=MO.list (p.map pv++[.tup [.int ((f++q.2).length:Nat),.int ((s++q.2).length:Nat)]])) g2 np2
 have hx3:=hx2.set (m:=MO.list (p.map pv++[.tup [.int ((f++q.2).length:Nat),.int ((s++q.2).length:Nat)]])) bp
 revert h3' g1' g2' hx3
 generalize H2.set rp (MO.list (p.map pv++[.tup [.int ((f++q.2).length:Nat),.int ((s++q.2).length:Nat)]]))=H3
 intro h3' g1' g2' hx3
 have gk2:=G2 ("k" :Str) (nv k) ⋯
 have i1:aQ (.ref c.p) (.int 0) H3=aa (.ref c.a,H3):=eZ (hx3 _ _ hc.1) (by decide) (mB _) rfl
 refine aO (m9 (fP (aJ (aI (aP (G2 _ (.ref q1) ⋯) (aI (aI (aP (G2 _ (.ref rc) ⋯) (aP gk2 (at_k (hx3 _ _ D.h) hcv lmc (bK (Lp.mk i1 (fX g1' (hx3 _ _ hc.2.1) (by rw[ar,ar,af];exact Yc237 l1 lt) (aJ (aI (aP (G2 _ (.ref q2) ⋯) (aI (aI (aP (G2 _ (.ref rc) ⋯) (aP gk2 (at_k (Hx.app _ _ _ _ (hx3 _ _ D.h)) hcv lmc (bK (Lp.mk (eZ (v:=.ref c.b) (Hx.app _ _ _ _ (hx3 _ _ hc.1)) (by decide) (cI (by decide) (show(1:Int)<((2:Nat):Int) by decide)) rfl) (fX (Hx.app _ _ _ _ g2') (Hx.app _ _ _ _ (hx3 _ _ hc.2.2)) (by rw[ar,ar,af];exact Yc236 l2 lt) (bD ⟨(show 2<100 by decide),Lf.mk rfl ⟨rfl,Lf.mk rfl (aS (go.nx (.mk (k:=k+1) (r1:=H3.length) (r2:=(H3++[MO.list ((f++q.2).map V.int++c.A.map V.int)]).length) rfl (((G2.cons "second" (.ref (H3++[MO.list ((f++q.2).map V.int++c.A.map V.int)]).length)).cons "first" (.ref H3.length)).re _ ⋯) (hx3.trans ((Hx.app _ _).trans (.app _ _))) ?_ ?_ ?_)))⟩⟩)))))))))))))))))))))))))
 ·rw[ef,<-bn,show ((f++q.2)++c.A).map V.int=(f++q.2).map V.int++c.A.map V.int from au ..]
  exact Hx.app _ _ _ _ (aV _ _)
 ·rw[en,<-bn,show ((s++q.2)++c.B).map V.int=(s++q.2).map V.int++c.B.map V.int from au ..]
  exact aV _ _
 ·refine rwL ep (rwL (show (p++[(0+(f.length:Int)+q.2.length,0+(s.length:Int)+q.2.length)]).map pv=p.map pv++[pv (0+(f.length:Int)+q.2.length,0+(s.length:Int)+q.2.length)] from au ..) (((Hx.app _ _).trans (.app _ _)) _ _ (h3'.trans ?_)))
  have z1:((f++q.2).length:Int)=0+f.length+q.2.length:=rwL af Yc235
  have z2:((s++q.2).length:Int)=0+s.length+q.2.length:=rwL af Yc235
  refine rwL z1 (rwL z2 ?_);rfl
def cl(m v:Int):Int:=if v<1000 then 2*(v/10)+1 else if v<2000 then 2*((v-1000)/20+1) else if v<3000 then 0 else 2*m
theorem tP{a:Int}(h:v∈bX a k):a<=v/\v<a+k:=by
 obtain⟨t,ht,rfl⟩:=nu.mp h
 have:=List.mem_range.mp ht
 exact Yc166 this
theorem yL(h1:10*k<=v)(h2:v<=10*k+9)(h3:v<1000):cl m v=2*k+1:=by
 unfold cl
 refine rwL (bo h3) ?_;omega
theorem CEn.okA(E:CEn k c)(k5:k<=5)(m:Int):∀ v∈c.A,cl m v=2*k+1:=λv hv=>by
 refine xEA E.a λA' e h=>?_
 rw[e]at hv
 rcases cy.mp hv with rfl |hv
 ·exact yL Yc165 Yc164 (Yc163 k5)
 ·have:=h v hv
  exact yL (Yc162 this) (Yc161 this) (Yc160 k5 this)
theorem CEn.okB(E:CEn k c)(k5:k<=5)(m:Int):∀ v∈c.B,cl m v=2*k+1:=λv hv=>by
 refine xEA E.b λB' e h=>?_
 rw[e]at hv
 rcases cu.mp hv with hv |hv
 ·have:=h v hv
  exact yL (Yc162 this) (Yc161 this) (Yc160 k5 this)
 ·exact rwL (cq.mp hv) (yL Yc159 Yc158 (Yc157 k5))
theorem q7(f:Ch->Nat):∀ (cs:ae Ch){k:Nat}{c:Ch},cs[k]? =aa c->f c<=(cs.map f).sum:=λcs=>by
 induction cs with
 |nil=>exact λh=>nomatch h
 |cons d cs ih=>
  intro k c h
  refine rwL fp (rwL xi ?_)
  cases k with
  |zero=>exact cxS h (pu _ _)
  |succ k=>exact Nat.le_trans (ih h) (ph _ _)
structure Cps(cs:ae Ch)(bs:ae (Nat×ae Int)):Prop where
 n:cs.length=bs.length+1
 n5:cs.length<=5
 c:∀ (j:Nat) c,cs[j]? =aa c->CEn j c
 s:∀ (k:Nat) s,bs[k]? =aa s->0<s.2.length/\s.2.length<=17/\∀ v∈s.2,1000+20*(k:Int)<=v/\v<1020+20*(k:Int)
 sz:szc cs<=cs.length+66
 sd:szd cs<=2*cs.length+66
theorem kp_at(P:KP kp bs c0 c1)(D:Cps cs bs)(h:kp[k]? =aa q)(kl:k<cs.length):(∀ v∈q.2,cl cs.length v=2*(k:Int))/\(0<k->0<q.2.length)/\q.2.length<=17:=by
 refine xEE P.e λp r e=>?_
 have n:=D.n
 have n5:=D.n5
 have b0:=P.b0
 rw[e]at h
 cases k with
 |zero=>
  refine cxSP h ⟨λv hv=>?_,λz=>bw z (Nat.lt_irrefl _),by show(bX 2000 c0).length<=17;exact rwL kU (Yc156 b0)⟩
  have:=tP hv
  unfold cl
  refine rwL (bc (Yc155 this)) (rwL (bc (Yc154 this)) (rwL (bo (Yc153 b0 this)) ?_));rfl
 |succ k=>
  rw[List.getElem?_cons_succ,eo (Yc152 n kl)]at h
  have s:=D.s k q h
  refine⟨λv hv=>?_,λa=>s.1,s.2.1⟩
  have:=s.2.2 v hv
  unfold cl
  refine rwL (bc (Yc151 this)) (rwL (bo (Yc150 n5 kl this)) ?_);omega
theorem vX(P:KP kp bs c0 c1)(D:Cps cs bs):kp.length=cs.length+1:=by
 refine xEE P.e λp r e=>?_
 have n:=D.n
 exact rwL e (rwL di (rwL af (rwL az (Yc149 n))))
theorem aGq(P:KP kp bs c0 c1):∃ l r,kp=l++[(r,bX 3000 c1)]:=xEE P.e λp r e=>⟨_::bs,r,e⟩
theorem lO(P:KP kp bs c0 c1)(D:Cps cs bs){k:Nat}(h:(sgs kp cs)[k]? =aa s):vA (cl cs.length) k s/\(0<k->0<s.K.length)/\s.K.length<=17/\s.A.length<100/\s.B.length<100:=by
 obtain⟨q,c,h1,h2,rfl⟩:=q9 h
 have kl:=(List.getElem?_eq_some_iff.mp h2).1
 have n5:=D.n5
 have K:=kp_at P D h1 kl
 have E:=D.c k c h2
 have la:c.A.length<=szc cs:=q7 (λc=>c.A.length) cs h2
 have lb:c.B.length<=szd cs:=q7 (λc=>c.B.length) cs h2
 have sz:=D.sz
 have sd:=D.sd
 refine xEA E.a λA' eA hA=>xEA E.b λB' eB hB=>?_
 have av0:av c.A 0=10*(k:Int)+8:=by refine rwL eA ?_;rfl
 have avl:av c.B ((c.B.length:Int)-1)=10*(k:Int)+9:=by
  refine rwL eB (rwL af (rwL az ?_))
  unfold av
  rw[show (((B'.length+1:Nat):Int)-1).toNat=B'.length by exact Yc148,dc,dh (Nat.le_refl _),mz];rfl
 refine⟨⟨K.1,E.okA (Yc147 kl n5) _,E.okB (Yc147 kl n5) _,⟨(rwL eA (zp _):0<c.A.length),?_⟩,⟨?_,?_⟩,ocd_ok (show c.A.length<1000 by exact Yc146 n5 la sz) (show c.B.length<1000 by exact Yc145 n5 lb sd)⟩,K.2.1,K.2.2,(Yc144 n5 la sz:c.A.length<100),(Yc143 n5 lb sd:c.B.length<100)⟩
 ·show av c.A 0∉c.B
  refine rwL av0 (rwL eB ?_)
  intro hv
  rcases cu.mp hv with hv |hv
  ·have:=hB _ hv;exact Yc142 this
  ·have:=cq.mp hv;exact Yc141 this
 ·exact(rwL eB (rwL af (zp _)):0<c.B.length)
 ·show av c.B ((c.B.length:Int)-1)∉c.A
  refine rwL avl (rwL eA ?_)
  intro hv
  rcases cy.mp hv with hv |hv
  ·exact Yc140 hv
  ·have:=hA _ hv;exact Yc139 this
theorem sum_le(f:Sgm->Nat)(b:Nat):∀ (l:ae Sgm),(∀ s∈l,f s<=b)->(l.map f).sum<=b*l.length:=λl=>by
 induction l with
 |nil=>intro _;exact jo _
 |cons s l ih=>
  intro h
  have:=ih λt ht=>h t (bq _ ht)
  have:=h s be
  rw[fp,xi,di,Nat.mul_add,Nat.mul_one];omega
theorem w3(f:Sgm->Nat)(g:Ch->Nat)(hf:∀ K c,f ⟨K,c.A,c.B,ocd c.A c.B⟩=g c):∀ (kp:ae (Nat×ae Int)) (cs:ae Ch),((sgs kp cs).map f).sum<=(cs.map g).sum:=λkp=>by
 induction kp with
 |nil=>intro cs;exact jo _
 |cons q kp ih=>
  intro cs
  cases cs with
  |nil=>exact jo _
  |cons c cs=>
   have:=ih cs
   refine(?_:f ⟨q.2,c.A,c.B,ocd c.A c.B⟩+((sgs kp cs).map f).sum<=g c+(cs.map g).sum)
   rw[hf];exact Yc138 this
theorem szS_le(l:ae Sgm):szS l=(((l.map λs=>s.A.length).sum:Nat):Int)+(((l.map λs=>s.B.length).sum:Nat):Int)+4*l.length:=by
 induction l with
 |nil=>rfl
 |cons s l ih=>
  show(s.A.length:Int)+s.B.length+4+szS l=((s.A.length+(l.map λs=>s.A.length).sum:Nat):Int)+((s.B.length+(l.map λs=>s.B.length).sum:Nat):Int)+4*((l.length+1:Nat):Int)
  exact rwL ih Yc137
structure Whl(segs:ae Sgm)(Km:ae Int)(W:ae Op):Prop where
 w:W=cdW 0 0 segs++eKt (fsL segs).length (snL segs).length Km.length
 al:(fsL segs++Km).length<200
 bl:(snL segs++Km).length<200
 rl:∀ r,Run (fsL segs++Km) (snL segs++Km) [⟨0,(fsL segs++Km).length,0,(snL segs++Km).length⟩] [] r->r.length<64
 o:∀ l,Ops (fsL segs++Km) (snL segs++Km) l->l=W
theorem aAg(P:KP kp bs c0 c1)(D:Cps cs bs):Whl (sgs kp cs) (bX 3000 c1) (cdW 0 0 (sgs kp cs)++eKt (fsL (sgs kp cs)).length (snL (sgs kp cs)).length (bX 3000 c1).length):=by
 have Q0:Qt (cl cs.length) 0 [] [] [] []:=by
  refine⟨⟨.nil (dj _) (dj _),λp hp=>bw hp dt,λ{x y z} e {i j k} n k0=>?_⟩,λv hv=>bw hv dt,λv hv=>bw hv dt,λh=>bw h.1 (Nat.lt_irrefl _),?_⟩
  ·have e:([]:ae T3)=x++(y++z):=e
   have ex:x= []:=(iq.mp e.symm).1
   have ez:z= []:=(iq.mp (iq.mp e.symm).2).2
   subst ex ez
   have h1:(0:Int)<=i:=n.i0
   have h2:i+k<=0:=n.i1
   exact(Yc55 k0 h1 h2).elim
  ·refine(?_:ops 0 0 [⟨0,0,0⟩]= [])
   rw[fY,aDb,bo rfl];rfl
 have sl:=m8 (vX P D)
 have n5:=D.n5
 have b1:=P.b1
 obtain⟨p1,Q1,n1⟩:=Q0.all (sgs kp cs) (λk s h=>by rw[ky];exact(lO P D h).1) (λk s h=>by
  by_cases q:k=0
  ·exact .inr ⟨q,rfl,rfl,rfl⟩
  ·exact .inl ((lO P D h).2.1 (Yc93 q)))
 rw[kn,kn,kn,sl,ky]at Q1
 have ls:(sgs kp cs).length≠0\/cs.length=0:=Yc136 sl
 have ne:0<(bX 3000 c1).length\/(bX 3000 c1)= []:=by
  by_cases q:0<(bX 3000 c1).length
  ·exact .inl q
  ·exact .inr (dq (aFb q))
 have fin:∃ ps,GE (fsL (sgs kp cs)++bX 3000 c1) (snL (sgs kp cs)++bX 3000 c1) ps/\cds (fsL (sgs kp cs)++bX 3000 c1) (snL (sgs kp cs)++bX 3000 c1) ps=cdW 0 0 (sgs kp cs)++eKt (fsL (sgs kp cs)).length (snL (sgs kp cs)).length (bX 3000 c1).length/\ps.length<=p1.length+1:=by
  rcases ne with q |q
  ·obtain⟨p2,G,_,_,w,l⟩:=Q1.kp (bX 3000 c1) (λv hv=>by
    have:=tP hv
    unfold cl
    exact rwL (bc (Yc135 this)) (rwL (bc (Yc134 this)) (rwL (bc (Yc133 this)) rfl))) (.inl q)
   exact⟨p2,G,w,l⟩
  ·rw[q,cw,cw]
   refine⟨p1,Q1.g,?_,ym _⟩
   have:eKt ((fsL (sgs kp cs)).length:Int) (snL (sgs kp cs)).length ([]:ae Int).length= []:=by
    unfold eKt
    exact rwL (bo (show([]:ae Int).length=0 from rfl)) rfl
   rw[this,cw]
   exact Q1.w
 obtain⟨ps,G,w,pl⟩:=fin
 have sA:=w3 (λs=>s.A.length) (λc=>c.A.length) (λa a=>rfl) kp cs
 have sB:=w3 (λs=>s.B.length) (λc=>c.B.length) (λa a=>rfl) kp cs
 have sK:=sum_le (λs=>s.K.length) 17 (sgs kp cs) λs hs=>by
  obtain⟨k,h⟩:=iu hs
  exact(lO P D h).2.2.1
 have e:=szS_le (sgs kp cs)
 have sz:(cs.map λc=>c.A.length).sum<=cs.length+66:=D.sz
 have sd:(cs.map λc=>c.B.length).sum<=2*cs.length+66:=D.sd
 rw[sl]at sK e
 have n1:3*(p1.length:Int)<=3*((0:Nat):Int)+szS (sgs kp cs):=n1
 have kl:(bX 3000 c1).length<10:=rwL kU b1
 refine⟨rfl,?_,?_,λr hr=>?_,λl O=>(G.is O).trans w⟩
 ·rw[af,len_fs];exact Yc132 n5 sA sK sz kl
 ·rw[af,len_sn];exact Yc131 n5 sB sK sd kl
 ·exact rwL (G.few hr) (Yc130 n5 pl sA sB e sz sd n1)
theorem law_4(D:Dat B rc rk cs kp)(bp:B[rp]? =none)(hx:Hx B H)(l1:(fsL (sgs kp cs)).length<10000)(l2:(snL (sgs kp cs)).length<10000)(G:Fs (fF r1 r2 rp rc rk) lo)(h1:H[r1]? =aa (.list []))(h2:H[r2]? =aa (.list []))(h3:H[rp]? =aa (.list []))(k:∀ {lo' H' r1 r2},Fs (fF r1 r2 rp rc rk) lo'->Hx B H'->H'[r1]? =aa (.list ((fsL (sgs kp cs)).map V.int))->H'[r2]? =aa (.list ((snL (sgs kp cs)).map V.int))->H'[rp]? =aa (.list ((plc 0 0 (sgs kp cs)).map pv))->K .next lo' H'):yA X lo H K:=by
 have lm:(cs.map Ch.v).length=cs.length:=ar ..
 have n5:=D.n5
 have sl:=m8 D.n
 refine(?_:g8 (hF C) (iR (eRL "chapters")) (aN "k") pB lo H K)
 refine n6 (vM (G _ (.ref rc) ⋯) (aR (hx _ _ D.h)) (rwL lm (aE8 n5)) ⟨_,lE (L4 B rc rk rp cs kp) (e:=cs.length) (λJ=>?_) (λxe J go=>p_step D bp l1 l2 xe J go) _ 0 (rwL lm aE9) (.mk (k:=0) rfl G hx h1 h2 h3)⟩)
 cases J with
 | @mk k' r1' r2' ex F hx h1 h2 h3=>
  have ek:k'=cs.length:=Yc207 ex
  have et:(sgs kp cs).take k'=sgs kp cs:=List.take_of_length_le (Yc252 sl ek)
  rw[et]at h1 h2 h3
  exact k F hx h1 h2 h3
theorem law_5{F S:ae Int}(g1:lo "first" =aa (.ref r1))(g2:lo "second" =aa (.ref r2))(h1:H[r1]? =aa (.list (F.map V.int)))(h2:H[r2]? =aa (.list (S.map V.int)))(l1:F.length<10000)(l2:S.length<10000)(k:K .next (upd lo "ends" (.tup [.int F.length,.int S.length])) H):xZ X lo H K:=by
 refine eV (fP (aJ (oK g1 (aR h1) (by rw[ar];exact pN l1) (aJ (oK g2 (aR h2) (by rw[ar];exact pN l2) (bD ⟨(show 2<100 by decide),?_⟩))))))
 rw[ar,ar]
 exact k
theorem jQ(h:H[r]? =aa (MO.list (vs++[v]))):aQ (.ref r) (.int (-1)) H=aa (v,H):=eZ (v:=v) h (by decide) (rwL af (tN _)) (by rw[dh (Nat.le_refl _),mz];rfl)
def smE:EF:=(aL X.c_SM4 (esC (eK .none) (esC (aA aH (eN "first") (aA aQ (eN "kept") (dM (eK (.int 1))))) (esC (aA aH (eN "second") (aA aQ (eN "kept") (dM (eK (.int 1))))) (esC (eK (.bool am)) esN)))))
theorem smE_i(g1:lo "first" =aa (.ref r1))(g2:lo "second" =aa (.ref r2))(gk:lo "kept" =aa (.ref rk))(h1:H[r1]? =aa (.list (F.map V.int)))(h2:H[r2]? =aa (.list (S.map V.int)))(hk:H[rk]? =aa (.list (kv++[.ref rm])))(hm:H[rm]? =aa (.list (Km.map V.int)))(l1:F.length<10000)(l2:S.length<10000)(l3:Km.length<10000)(k:∀ {H' s ra rb rd rj rp n f},Hx H H'->SM H' s ra rb rd rj n (fsF ra rb rd rj rp) f (F++Km) (S++Km)->H[s]? =none->R (.ref s) H'):smE X lo H R:=bS (aJ (bK (aJ (aI (aP g1 (aI (aP gk (i9 (Lp.mk (jQ hk) (fX h1 hm (by rw[ar,ar];exact yU l1 l3) (aJ (aI (aP g2 (aI (aP gk (i9 (Lp.mk (jQ (Hx.app _ _ _ _ hk)) (fX (Hx.app _ _ _ _ h2) (Hx.app _ _ _ _ hm) (by rw[ar,ar];exact yU l2 l3) (aJ (bK (bD (rwR au (rwR au (sY X (aR (Hx.app _ _ _ _ (aV _ _))) (aR (aV _ _)) (rwL af (yU l1 l3)) (rwL af (yU l2 l3)) λ{H' rd rj rp n f} x2 Sm q=>k (((Hx.app _ _).trans (.app _ _)).trans x2) Sm ((((Hx.app _ _).trans (.app _ _):Hx H _)).fresh)))))))))))))))))))))))))
theorem pK(l:ae Op):(l.flatMap λo=>bif !o.tag.isEq then [o.v] else [])=(chF l).map Op.v:=by
 unfold chF
 induction l with
 |nil=>rfl
 |cons o l ih=>
  refine rwL qa (rwL List.filter_cons (rwL ih ?_))
  cases o.tag.isEq<;>rfl
theorem neq_i{g:Tg}{P:fq->MH->Prop}(q:P (!g.isEq) H):Lp (bG not (.str g.s) (.str "equal") H) λv H1=>Lf (tr v H1) λb=>P b H1:=Lp.mk (v:=.bool (!g.isEq)) (H:=H) (by unfold bG;rw[nN];rfl) (Lf.mk (p:= !g.isEq) rfl q)
def rwT:TF:=(aZ (tE (aA (bG not) (aA aQ (eN "row") (eK (.int 0))) (eK (.str "equal")))) (tK ak))
theorem w4{o:Op}(ha:B[ai]? =none):Put (λa=>vt) B ai (bif !o.tag.isEq then [o.v] else []) (fW (aN "row") rwT (cD (eN "row") ai) o.v):=⟨λ{lo1 H1 acc P} i hx h hal kk=>by
 refine turn_t (c:= !o.tag.isEq) (λR q=>lL (aI (aI (aP fJ (bK (vH (bK (neq_i q)))))))) ?_
 cases e:o.tag.isEq with
 |true=>rw[e]at kk;exact bT (put0 (P:=P) (I:=λa=>vt) hx h rfl trivial kk)
 |false=>rw[e]at kk hal;exact b3 (aP fJ (put1 (P:=P) (I:=λa=>vt) ha hx h hal rfl trivial kk))⟩
theorem law_8{rd:Nat}(go:lo "other" =aa (.ref s))(Sm:SM H s ra rb rd rj m fs f a b)(hm:fs "matching_blocks" =aa .none)(ho:fs "opcodes" =aa .none)(al:a.length<200)(rl:∀ r,Run a b [⟨0,a.length,0,b.length⟩] [] r->r.length<64)(hW:∀ l,Ops a b l->l=W)(k:∀ {H' r},Ex H H' s->H'[r]? =aa (.list ((chF W).map Op.v))->H[r]? =none->K .next (upd lo "changes" (.ref r)) H'):xY X lo H K:=by
 refine eV (show dJ (bL X) (eN "other") esN lo H _ from aP go (Lf.mk (p:=s) rfl ⟨⟨_,Sm.o⟩,bD (oF X Sm hm ho al rl λ{H1 r l} e1 e2 e3 e4 O=>Lf.mk (p:=H.length) rfl ⟨⟨_,aR e4⟩,?_⟩)⟩))
 have eW:=hW l O
 have ll:=O.len_r rl
 subst eW
 have lf:(chF l).length<=l.length:=List.length_filter_le ..
 have fr:H[H1.length]? =none:=by
  cases z:H[H1.length]? with
  |none=>rfl
  |some m=>
   by_cases q:s=H1.length
   ·exact aF ((aM H1).symm.trans (q▸e3))
   ·exact aF ((aM H1).symm.trans (e1 _ _ q z))
 revert e4
 generalize H.length=c
 intro e4
 exact pJ (K:=bZ C) (hid:=[".0","row"]) (fi:=λd H Q=>Q (c,0) H) (tgt:=aN "row") (t:=rwT) (bf:=cD (eN "row")) (lo:=lo) (Q:=λv H3=>K .next (upd lo "changes" v) H3) Op.v (λo=>bif !o.tag.isEq then [o.v] else []) (λd=>vt) l (it:=(c,0)) (λq=>q) (jE (aR e4) _ 0 rfl) trivial (by rw[pK,ar];exact Yc249 ll lf) (λo d=>w4 (aM H1)) λ{H'} hx h'=>k (λj m n e=>hx _ _ (e1 j m n e)) (by rw[h',pK]) fr
theorem law_9(gk:lo "kept" =aa (.ref rk))(hk:H[rk]? =aa (.list (.ref r0::kv)))(h0:H[r0]? =aa (.list (K0.map V.int)))(l0:K0.length<10000)(k:∀ {H' s ra rb rd rj rp n f},Hx H H'->SM H' s ra rb rd rj n (fsF ra rb rd rj rp) f K0 K0->H[s]? =none->K .next (upd lo "same" (.ref s)) H'):xX X lo H K:=by
 have i0:aQ (.ref rk) (.int 0) H=aa (.ref r0,H):=eZ (v:=.ref r0) hk (by decide) (mB _) rfl
 exact eV (bS (aJ (bK (aJ (aI (aP gk (bK (Lp.mk i0 (aJ (bS (aJ (aI (aP gk (bK (Lp.mk i0 (bD (aGp h0 (by rw[ar];exact yT l0) (aJ (bK (bD (sY X (aR (Hx.app _ _ _ _ h0)) (aR (aV _ _)) (yT l0) (yT l0) λ{H' rd rj rp n f} x2 Sm q=>k ((Hx.app _ _).trans x2) Sm (Hx.app H _).fresh)))))))))))))))))))))
theorem rK(n:r≠ai)(e:lst H (.ref r)=aa vs):lst (H.set ai m') (.ref r)=aa vs:=by
 have e:H[r]?.bind MO.vs=aa vs:=e
 show(H.set ai m')[r]?.bind MO.vs=aa vs
 exact xEA (aq.mp e) λm h1 h2=>aq.mpr ⟨m,aE h1 n.symm,h2⟩
theorem SM.set{rd:Nat}(S:SM H s ra rb rd rj n fs f a b)(h:H[ai]? =aa (.list vs))(n1:ra≠ai)(n2:rb≠ai)(fr:∀ v r,f v=aa (.ref r)->r≠ai):SM (H.set ai (.list ws)) s ra rb rd rj n fs f a b:=by
 refine⟨aE S.o λq=>?_,S.fa,S.fb,S.fd,S.fj,rK n1 S.ia,rK n2 S.ib,aE S.d λq=>?_,aE S.j λq=>?_,λv=>(S.bj v).imp id fun⟨r,vs,e1,e2,e3⟩=>⟨r,vs,e1,rK (fr v r e1) e2,e3⟩,S.al,S.bl⟩
 ·subst q;exact bw (h.symm.trans S.o) nofun
 ·subst q;exact bw (h.symm.trans S.d) nofun
 ·subst q;exact bw (h.symm.trans S.j) nofun
structure Fre(H:MH)(s ai:Nat)(A B:ae Int):Prop where
 ex:∃ ra rb rd rj rp n f,SM H s ra rb rd rj n (fsF ra rb rd rj rp) f A B/\ra≠ai/\rb≠ai/\∀ v r,f v=aa (.ref r)->r≠ai
theorem Fre.hx(h:Fre H s ai A B)(x:Hx H H'):Fre H' s ai A B:=by
 obtain⟨ra,rb,rd,rj,rp,n,f,S,h⟩:=h.ex
 exact⟨ra,rb,rd,rj,rp,n,f,S.hx x,h⟩
theorem Fre.set(h:Fre H s ai A B)(ha:H[ai]? =aa (.list vs)):Fre (H.set ai (.list ws)) s ai A B:=by
 obtain⟨ra,rb,rd,rj,rp,n,f,S,h1,h2,h3⟩:=h.ex
 exact⟨ra,rb,rd,rj,rp,n,f,S.set ha h1 h2 h3,h1,h2,h3⟩
inductive NM(B:MH)(ai:Nat)(cs:ae Ch)(rest:ae Ch)(lo:Lo)(H:MH):Prop
 |mk {done:ae Nat}{cd:ae Ch} (hx:Hx B H) (h:H[ai]? =aa (.list (done.map V.ref))) (t:cd++rest=cs) (l:done.length=cd.length) (nd:done.Nodup) (p:∀ (i:Nat) s c,done[i]? =aa s->cd[i]? =aa c->Fre H s ai c.A c.B) (q:∀ s∈done,B[s]? =none/\s≠ai):NM B ai cs rest lo H
def alE:EF:=(aL X.c_SM4 (esC (eK .none) (esC (eN "one") (esC (eN "two") (esC (eK (.bool am)) esN)))))
def alT:AF:=(sX 2 (asC (aN "one") (asC (aN "two") asN)))
theorem aHl(ba:B[ai]? =none)(c5:cs.length<=5)(h1:B[c.p]? =aa (.list [.ref c.a,.ref c.b]))(h2:B[c.a]? =aa (.list (c.A.map V.int)))(h3:B[c.b]? =aa (.list (c.B.map V.int)))(l1:c.A.length<1000)(l2:c.B.length<1000)(I:NM B ai cs (c::rest) lo H)(k:∀ {lo' H'},NM B ai cs rest lo' H'->P lo' H'):fW alT (tK ak) (cD (alE X) ai) c.v lo H P:=by
 cases I with
 | @mk done cd hx h t l nd p q=>
 refine(?_:sX 2 _ (.ref c.p) lo H _)
 refine Lf.mk (p:=[.ref c.a,.ref c.b]) (aR (hx _ _ h1)) ⟨rfl,?_⟩
 show cD (alE X) ai (upd (upd lo "one" (.ref c.a)) "two" (.ref c.b)) H P
 have g1:upd (upd lo "one" (.ref c.a)) "two" (.ref c.b) "one" =aa (.ref c.a):=rwL (Lo.ne (by decide)) fJ
 have na:c.a≠ai:=λz=>aF (ba.symm.trans (z▸h2))
 have nb:c.b≠ai:=λz=>aF (ba.symm.trans (z▸h3))
 refine bS (aJ (bK (aJ (aP g1 (aJ (aP fJ (aJ (bK (bD (sY X (aR (hx _ _ h2)) (aR (hx _ _ h3)) (pO l1) (pO l2) λ{H1 rd rj rp n f} x1 Sm fr=>?_))))))))))
 have lt:=ei List.length t
 rw[af,di]at lt
 have ha:=x1 _ _ h
 refine Lf.mk (eX ha) ⟨by rw[ar];exact Yc257 c5 l lt,k (.mk (done:=done++[H.length]) (cd:=cd++[c]) ((hx.trans x1).set ba) (rwL au (aK ha _)) (by rw[bn];exact t) (by refine rwL af (rwL af (rwL l ?_));rfl) ?_ (λi s d hs hd=>?_) λs hs=>?_)⟩
 ·rw[si]
  refine⟨nd,jg _ _,λy hy z hz e=>?_⟩
  rw[cq.mp hz]at e
  obtain⟨i,hi⟩:=iu hy
  have il:=(List.getElem?_eq_some_iff.mp hi).1
  obtain⟨ra,rb,rd,rj,rp,n,f,S,_⟩:=(p i y cd[i] hi (df (Yc256 l il))).ex
  exact cG S.o e.symm
 ·by_cases il:i<done.length
  ·rw[eo il]at hs
   rw[eo (Yc256 l il)]at hd
   exact((p i s d hs hd).hx x1).set ha
  ·rw[dh (aFa il)]at hs
   rw[dh (Yc255 l il)]at hd
   have i1:=(List.getElem?_eq_some_iff.mp hs).1
   rw[az]at i1
   have e0:i-done.length=0:=Yc254 i1
   have e1:i-cd.length=0:=Yc253 l e0
   rw[e0]at hs
   rw[e1]at hd
   refine cxS hs (cxS hd ?_)
   have F:Fre H1 H.length ai c.A c.B:=⟨c.a,c.b,rd,rj,rp,n,f,Sm,na,nb,λv r e z=>aF ((fr v r e).symm.trans (z▸h))⟩
   exact F.set ha
 ·rcases cu.mp hs with hs |hs
  ·exact q s hs
  ·exact rwL (cq.mp hs) ⟨hx.fresh,cG h⟩
theorem law_10{cs:ae Ch}(gc:lo "chapters" =aa (.ref rc))(hh:H[rc]? =aa (.list (cs.map Ch.v)))(hc:∀ c∈cs,H[c.p]? =aa (.list [.ref c.a,.ref c.b])/\H[c.a]? =aa (.list (c.A.map V.int))/\H[c.b]? =aa (.list (c.B.map V.int)))(c5:cs.length<=5)(ll:∀ c∈cs,c.A.length<1000/\c.B.length<1000)(k:∀ {H' ra}{ms:ae Nat},Hx H H'->H'[ra]? =aa (.list (ms.map V.ref))->ms.length=cs.length->ms.Nodup->(∀ (i:Nat) s c,ms[i]? =aa s->cs[i]? =aa c->Fre H' s ra c.A c.B)->(∀ s∈ms,H[s]? =none)->H[ra]? =none->K .next (upd lo "alone" (.ref ra)) H'):uM X lo H K:=by
 refine eV (show fK (bZ C) [".0","one","two"] (iL (eN "chapters")) alT (tK ak) (cD (alE X)) lo H _ from iL_i (λq=>aP gc q) (aR hh) ⟨_,tO (B:=H) (ai:=H.length) (bf:=cD (alE X)) Ch.v (NM H H.length cs) (λJ=>?_) (λ{lo2 H2} J=>?_) (λ{c l' lo1 H1 P} J kk=>?_) cs (jE (aR hh) _ 0 rfl) (.mk (done:=[]) (cd:=[]) (.app _ _) (aV _ _) rfl rfl List.nodup_nil (λi s c hs=>nomatch hs) λs hs=>bw hs dt)⟩)
 ·cases J with
  |mk hx=>exact hx
 ·cases J with
  | @mk done cd hx h t l nd p q=>
   rw[cw]at t
   subst t
   exact k hx h l nd p (λs hs=>(q s hs).1) (aM H)
 ·have mc:c∈cs:=by
   cases J with
   | @mk done cd hx h t l nd p q=>
    exact rwR t (bg _ be)
  have hc:=hc c mc
  have ll:=ll c mc
  exact aHl X (aM H) c5 hc.1 hc.2.1 hc.2.2 ll.1 ll.2 J kk
def mvT:AF:=(sX 5 (asC (aN "tag") (asC (aN "i") (asC (aN "iend") (asC (aN "j") (asC (aN "jend") asN))))))
def mvE:EF:=(bE (esC (eN "tag") (esC (aA aH (eN "i") (eN "x")) (esC (aA aH (eN "iend") (eN "x")) (esC (aA aH (eN "j") (eN "y")) (esC (aA aH (eN "jend") (eN "y")) esN))))))
theorem aB1{g:ae Op}(h:H[r]? =aa (.list (g.map Op.v)))(gl:g.length<100000)(k:∀ {H' r'},Hx H H'->H'[r']? =aa (.list (oG (g.map (shO x y))))->H[r']? =none->R (.ref r') H'):fM X [.ref r,.int x,.int y] H R:=by
 refine⟨rfl,?_⟩
 have F:Fs [("y",.int y),("x",.int x),("group",.ref r)] (loB ["group","x","y"] [.ref r,.int x,.int y] lo0):=((Fs.cons (l:=[]) nofun "group" (.ref r)).cons "x" (.int x)).cons "y" (.int y)
 refine(?_:jH X (loB ["group","x","y"] [.ref r,.int x,.int y] lo0) H (mW R))
 revert F
 generalize loB ["group","x","y"] [.ref r,.int x,.int y] lo0=lo
 intro F
 have ef:(g.flatMap λo=>[(shO x y o).v])=oG (g.map (shO x y)):=by
  unfold oG
  rw[uL,zg];rfl
 refine aO (rC (show fK (bZ C) [".0","tag","i","iend","j","jend"] (iL (eN "group")) mvT (tK ak) (cD mvE) lo H _ from qU Op.v (λo=>[(shO x y o).v]) (Fs [("y",.int y),("x",.int x)]) g (F _ (.ref r) ⋯) (aR h) ((F.re [("y",.int y),("x",.int x)] ⋯).hide ⋯) (by refine rwL ef ?_;unfold oG;rw[ar,ar];exact aE7 gl) (λo ho=>⟨λ{lo1 H1 acc P} i hx ha hal kk=>(kch (B:=(5=5/\cD mvE H.length (upd (upd (upd (upd (upd lo1 "tag" (.str o.tag.s)) "i" (.int o.i1)) "iend" (.int o.i2)) "j" (.int o.j1)) "jend" (.int o.j2)) H1 P)) ⋯ ⟨rfl,?_⟩)⟩) λ{H'} hx h'=>k hx (by exact rwL h' (rwL ef rfl)) (aM H)))
 have G:=((((i.cons "tag" (.str o.tag.s)).cons "i" (.int o.i1)).cons "iend" (.int o.i2)).cons "j" (.int o.j1)).cons "jend" (.int o.j2)
 revert G
 generalize upd (upd (upd (upd (upd lo1 "tag" (.str o.tag.s)) "i" (.int o.i1)) "iend" (.int o.i2)) "j" (.int o.j1)) "jend" (.int o.j2)=lo2
 intro G
 have gx:=G ("x" :Str) (.int x) ⋯
 have gy:=G ("y" :Str) (.int y) ⋯
 refine(?_:mvE lo2 H1 _)
 unfold mvE
 refine fP (aJ (aP (G _ (.str o.tag.s) ⋯) (aJ (aI (aP (G _ (.int o.i1) ⋯) (aP gx (hV (aJ (aI (aP (G _ (.int o.i2) ⋯) (aP gx (hV (aJ (aI (aP (G _ (.int o.j1) ⋯) (aP gy (hV (aJ (aI (aP (G _ (.int o.j2) ⋯) (aP gy (hV (bD ⟨(show 5<100 by decide),?_⟩)))))))))))))))))))))))
 have gi:=G.re [("y",.int y),("x",.int x)] ⋯
 exact put1 (P:=P) (I:=Fs [("y",.int y),("x",.int x)]) (v:=(shO x y o).v) (aM H) hx ha hal rfl gi kk
theorem nG(k:R (kO x y p q).v H):cA X [.int x,.int y,.int p,.int q] H R:=by
 refine⟨rfl,?_⟩
 have F:Fs [("end",.int q),("begin",.int p),("y",.int y),("x",.int x)] (loB ["x","y","begin","end"] [.int x,.int y,.int p,.int q] lo0):=(((Fs.cons (l:=[]) nofun "x" (.int x)).cons "y" (.int y)).cons "begin" (.int p)).cons "end" (.int q)
 refine(?_:kD X (loB ["x","y","begin","end"] [.int x,.int y,.int p,.int q] lo0) H (mW R))
 revert F
 generalize loB ["x","y","begin","end"] [.int x,.int y,.int p,.int q] lo0=lo
 intro F
 have gx:=F ("x" :Str) (.int x) ⋯
 have gy:=F ("y" :Str) (.int y) ⋯
 have gp:=F ("begin" :Str) (.int p) ⋯
 have gq:=F ("end" :Str) (.int q) ⋯
 exact aO (rC (fP (aJ (bK (aJ (aI (aP gx (aP gp (hV (aJ (aI (aP gx (aP gq (hV (aJ (aI (aP gy (aP gp (hV (aJ (aI (aP gy (aP gq (hV (bD ⟨(show 5<100 by decide),k⟩)))))))))))))))))))))))))
def upn{α:Type}(f:Nat->α)(s:Nat)(v:α):Nat->α:=λx=>if x=s then v else f x
theorem fR(f:Nat->α)(s:Nat)(v:α):upn f s v s=v:=bo rfl
theorem dN(f:Nat->α)(v:α)(h:x≠s):upn f s v x=f x:=bc h
structure Stt(X:XX C)(H0 H:MH)(o:Nat->aj Nat)(W:Nat->ae Op)(M:ae Nat):Prop where
 ni:∀ (r:Nat) (m:MO),H0[r]? =aa m->(∀ ff,m≠ .inst ff)->H[r]? =aa m
 ex:∀ (r:Nat) (m:MO),H0[r]? =aa m->∃ m',H[r]? =aa m'
 m:∀ s∈M,(o s=none/\H[s]? =H0[s]? /\Mst X H0 s (W s) none)\/∃ c fs,o s=aa c/\H[s]? =aa (.inst fs)/\fs "opcodes" =aa (.ref c)/\H[c]? =aa (.list ((W s).map Op.v))/\H0[c]? =none
 d:∀ s∈M,∀ s'∈M,s≠s'->∀ c,o s=aa c->o s'≠aa c
 i:∀ s∈M,∃ ff,H0[s]? =aa (.inst ff)
theorem vW(k:∀ (r:Nat) (m:MO),H0[r]? =aa m->(∀ ff,m≠ .inst ff)->H[r]? =aa m)(e:lst H0 (.ref r)=aa vs):lst H (.ref r)=aa vs:=by
 have e:H0[r]?.bind MO.vs=aa vs:=e
 exact(xEA (aq.mp e) λm h1 h2=>aq.mpr ⟨m,k _ _ h1 (λff q=>by subst q;exact aF h2),h2⟩:H[r]?.bind MO.vs=aa vs)
theorem SM.ni{rd:Nat}(S:SM H0 s ra rb rd rj n fs f a b)(k:∀ (r:Nat) (m:MO),H0[r]? =aa m->(∀ ff,m≠ .inst ff)->H[r]? =aa m)(hs:H[s]? =H0[s]?):SM H s ra rb rd rj n fs f a b:=⟨hs.trans S.o,S.fa,S.fb,S.fd,S.fj,vW k S.ia,vW k S.ib,k _ _ S.d nofun,k _ _ S.j nofun,λv=>(S.bj v).imp id fun⟨r,vs,e1,e2,e3⟩=>⟨r,vs,e1,vW k e2,e3⟩,S.al,S.bl⟩
theorem Stt.mst{X:XX C}(S:Stt X H0 H o W M)(hs:s∈M):Mst X H s (W s) (o s):=by
 rcases S.m s hs with ⟨e,h,m⟩ |⟨c,fs,e,h1,h2,h3,_⟩
 ·refine rwL e ?_
  cases m with
  |fresh Sm hm ho al rl hW=>exact .fresh (Sm.ni S.ni h) hm ho al rl hW
 ·exact rwL e (.kept h1 h2 h3)
theorem Stt.hx{X:XX C}(S:Stt X H0 H o W M)(x:Hx H H'):Stt X H0 H' o W M:=by
 refine⟨λr m e n=>x _ _ (S.ni r m e n),λr m e=>(S.ex r m e).imp λq h=>x _ _ h,λs hs=>?_,S.d,S.i⟩
 rcases S.m s hs with ⟨e,h,m⟩ |⟨c,fs,e,h1,h2,h3,h4⟩
 ·obtain⟨ff,hi⟩:=S.i s hs
  exact .inl ⟨e,by rw[hi]at h ⊢;exact x _ _ h,m⟩
 ·exact .inr ⟨c,fs,e,x _ _ h1,h2,x _ _ h3,h4⟩
structure Nw(H0:MH)(o:Nat->aj Nat)(M:ae Nat)(d:Nat):Prop where
 n:H0[d]? =none
 o:∀ s∈M,o s≠aa d
theorem Stt.nw{X:XX C}(S:Stt X H0 H o W M){d:Nat}(h:H[d]? =none):Nw H0 o M d:=by
 refine⟨?_,λs hs e=>?_⟩
 ·cases z:H0[d]? with
  |none=>rfl
  |some m=>obtain⟨m',h'⟩:=S.ex d m z;exact aF (h.symm.trans h')
 ·rcases S.m s hs with ⟨q,_⟩ |⟨c,fs,q,_,_,h3,_⟩
  ·rw[q]at e;exact aF e
  ·rw[q]at e;refine cyS e λzq=>?_;subst zq;exact aF (h.symm.trans h3)
theorem Stt.set{X:XX C}(S:Stt X H0 H o W M){d:Nat}(N:Nw H0 o M d)(h:H[d]? =aa (.list vs)):Stt X H0 (H.set d (.list ws)) o W M:=by
 have nd:∀ {r:Nat}{m:MO},H0[r]? =aa m->d≠r:=λ{r m} e q=>aF (N.n.symm.trans (q▸e))
 refine⟨λr m e n=>aE (S.ni r m e n) (nd e),λr m e=>(S.ex r m e).imp λa h=>aE h (nd e),λs hs=>?_,S.d,S.i⟩
 obtain⟨ff,hi⟩:=S.i s hs
 rcases S.m s hs with ⟨e,h',m⟩ |⟨c,fs,e,h1,h2,h3,h4⟩
 ·exact .inl ⟨e,by rw[hi]at h' ⊢;exact aE h' (nd hi),m⟩
 ·exact .inr ⟨c,fs,e,aE h1 (nd hi),h2,aE h3 λq=>N.o s hs (q▸e),h4⟩
theorem Stt.cg{X:XX C}{ob:β->ae V}(S:Stt X H0 H o W M)(hs:s∈M)(G:CG ob X H H' s (o s) W' c ai ps):Stt X H0 H' (upn o s (aa c)) (upn W s W') M/\(∀ (r:Nat) (m:MO),H[r]? =aa m->(∀ ff,m≠ .inst ff)->(o s=aa r->(m= .list ((W s).map Op.v)->W'=W s))->H'[r]? =aa m):=by
 refine xE (S.i s hs) λff hi=>?_
 have isS:∃ f1,H[s]? =aa (.inst f1):=by
  rcases S.m s hs with ⟨_,h,_⟩ |⟨_,fs,_,h,_⟩
  ·exact⟨ff,h.trans hi⟩
  ·exact⟨fs,h⟩
 obtain⟨f1,isS⟩:=isS
 have st:=G.st
 cases st with
 | @kept fs _ g1 g2 g3=>
 have c0:H0[c]? =none:=by
  rcases G.oc with q |⟨_,q⟩
  ·rcases S.m s hs with ⟨z,_⟩ |⟨c',_,z,_,_,_,h4⟩
   ·rw[z]at q;exact aF q
   ·rw[z]at q;exact cxS q h4
  ·exact(S.nw q).n
 have nc:∀ {r:Nat},o s=aa r->H0[r]? =none:=λ{r} e=>by
  rcases S.m s hs with ⟨z,_⟩ |⟨c',_,z,_,_,_,h4⟩
  ·rw[z]at e;exact aF e
  ·rw[z]at e;exact cxS e h4
 refine⟨⟨λr m e n=>G.kp r m (λq=>?_) (λq=>?_) (S.ni r m e n),λr m e=>?_,λt ht=>?_,λt ht t' ht' nt c' e=>?_,S.i⟩,λr m e n k=>?_⟩
 ·subst q
  exact n ff (Option.some.inj (e.symm.trans hi))
 ·exact aF ((nc q).symm.trans e)
 ·obtain⟨m',h⟩:=S.ex r m e
  by_cases q1:r=s
  ·exact⟨_,q1▸g1⟩
  ·exact⟨m',G.kp r m' q1 (λq=>aF ((nc q).symm.trans e)) h⟩
 ·by_cases q:t=s
  ·exact rwL q (.inr ⟨c,fs,fR ..,g1,g2,by rw[fR];exact g3,c0⟩)
  ·refine rwL (dN _ _ q) (rwL (dN _ _ q) (xE (S.i t ht) λf2 hi2=>?_))
   rcases S.m t ht with ⟨e,h,m⟩ |⟨c',f3,e,h1,h2,h3,h4⟩
   ·refine .inl ⟨e,?_,m⟩
    rw[hi2]at h ⊢
    exact G.kp t _ q (λz=>aF ((nc z).symm.trans hi2)) h
   ·refine .inr ⟨c',f3,e,G.kp t _ q (λz=>aF ((nc z).symm.trans hi2)) h1,h2,G.kp c' _ (λz=>?_) (S.d t ht s hs q c' e) h3,h4⟩
    subst z
    exact bw (isS.symm.trans h3) nofun
 ·by_cases q:t=s
  ·subst q
   rw[fR]at e
   refine cxS e (rwL (dN _ _ λz=>nt z.symm) ?_)
   rcases G.oc with z |⟨_,z⟩
   ·exact S.d t ht t' ht' nt c z
   ·exact(S.nw z).o t' ht'
  ·rw[dN _ _ q]at e
   by_cases q':t'=s
   ·subst q'
    rw[fR]
    intro z
    refine cyS z λzq=>?_;subst zq
    rcases G.oc with z |⟨_,z⟩
    ·exact S.d t ht t' ht' nt c e z
    ·exact(S.nw z).o t ht e
   ·exact rwL (dN _ _ q') (S.d t ht t' ht' nt c' e)
 ·have ns:r≠s:=λq=>by
   subst q
   exact n f1 (Option.some.inj (e.symm.trans isS))
  by_cases q:o s=aa r
  ·rcases S.m s hs with ⟨z,_⟩ |⟨c',_,z,_,_,h3,_⟩
   ·rw[z]at q;exact aF q
   ·have z':=z
    rw[q]at z
    refine cyS z λzq=>?_;subst zq
    rcases G.oc with z |⟨z,_⟩
    ·rw[q]at z
     refine cyS z λzq=>rwL zq ?_
     have em:=Option.some.inj (e.symm.trans h3)
     exact rwL g3 (rwL (k q em) (rwL em rfl))
    ·rw[q]at z;exact cyM z
  ·exact G.kp r m ns q e
abbrev Gl:=ae (Nat×ae Op)
structure D2(H0 H:MH)(o:Nat->aj Nat)(M:ae Nat)(rd:Nat)(ds:Gl)(rg:Nat)(ps:Gl):Prop where
 h1:H[rd]? =aa (.list (ds.map rv))
 h2:H[rg]? =aa (.list (ps.map rv))
 hd:∀ p∈ds++ps,H[p.1]? =aa (.list (oG p.2))
 nd:(rd::rg::(ds++ps).map Prod.fst).Nodup
 nf:∀ x∈rd::rg::(ds++ps).map Prod.fst,Nw H0 o M x
structure DS(H0 H:MH)(o:Nat->aj Nat)(M:ae Nat)(rd:Nat)(ds:Gl):Prop where
 h1:H[rd]? =aa (.list (ds.map rv))
 hd:∀ p∈ds,H[p.1]? =aa (.list (oG p.2))
 nd:(rd::ds.map Prod.fst).Nodup
 nf:∀ x∈rd::ds.map Prod.fst,Nw H0 o M x
theorem D2.hx{rd:Nat}(D:D2 H0 H o M rd ds rg ps)(x:Hx H H'):D2 H0 H' o M rd ds rg ps:=⟨x _ _ D.h1,x _ _ D.h2,λp hp=>x _ _ (D.hd p hp),D.nd,D.nf⟩
theorem DS.hx{rd:Nat}(D:DS H0 H o M rd ds)(x:Hx H H'):DS H0 H' o M rd ds:=⟨x _ _ D.h1,λp hp=>x _ _ (D.hd p hp),D.nd,D.nf⟩
theorem fI{l:Gl}(h:p∈l):p.1∈l.map Prod.fst:=ly h
theorem D2.put1{rd:Nat}{ps:Gl}(D:D2 H0 H o M rd ds rg (g::ps))(hq:H[q]? =aa (.list (oG w)))(nw:Nw H0 o M q)(f:∀ x∈rd::rg::(ds++g::ps).map Prod.fst,x≠q):D2 H0 (H.set rg (.list ((g::ps).map rv |>.set 0 (.ref q)))) o M rd ds rg ((q,w)::ps):=by
 have nd:=D.nd
 have ne:=cN (u:=[rd]) nd
 have m:∀ x,x∈(ds++ps).map Prod.fst->x∈(ds++g::ps).map Prod.fst:=λx hx=>by
  rw[au]at hx ⊢
  rcases cu.mp hx with h |h
  ·exact cz _ h
  ·exact bg _ (bq _ h)
 have ms:∀ p∈ds++ps,p∈ds++g::ps:=λp hp=>by
  rcases cu.mp hp with h |h
  ·exact cz _ h
  ·exact bg _ (bq _ h)
 have pm:((q::(rd::rg::(ds++ps).map Prod.fst))).Perm (rd::rg::(ds++(q,w)::ps).map Prod.fst):=by
  exact rwL au (rwL au (rwL fp ((List.Perm.swap rd q _).trans (.cons _ ((List.Perm.swap rg q _).trans (.cons _ xh.symm))))))
 have pm2:((g.1::(rd::rg::(ds++ps).map Prod.fst))).Perm (rd::rg::(ds++g::ps).map Prod.fst):=by
  exact rwL au (rwL au (rwL fp ((List.Perm.swap rd g.1 _).trans (.cons _ ((List.Perm.swap rg g.1 _).trans (.cons _ xh.symm))))))
 refine⟨aE D.h1 (ne rd (by simp)).symm,aK D.h2 _,λp hp=>?_,?_,λx hx=>?_⟩
 ·have hp:p∈ds++((q,w)::ps):=hp
  have:p=(q,w)\/p∈ds++ps:=by
   rcases cu.mp hp with h |h
   ·exact .inr (cz _ h)
   ·rcases cy.mp h with h |h
    ·exact .inl h
    ·exact .inr (bg _ h)
  rcases this with rfl |h
  ·exact aE hq (f rg (by simp))
  ·have h':=ms p h
   exact aE (D.hd p h') (ne p.1 (bg _ (fI h'))).symm
 ·refine pm.nodup_iff.mp (wc.mpr ⟨λh=>?_,(wc.mp (pm2.nodup_iff.mpr nd)).2⟩)
  rcases cy.mp h with h |h
  ·exact f rd (by simp) h.symm
  ·rcases cy.mp h with h |h
   ·exact f rg (by simp) h.symm
   ·exact f q (bq _ (bq _ (m q h))) rfl
 ·rcases cy.mp (pm.mem_iff.mpr hx) with rfl |h
  ·exact nw
  ·exact D.nf x (pm2.mem_iff.mp (bq _ h))
theorem D2.pop{rd:Nat}(D:D2 H0 H o M rd (ds++[d]) rg ps):D2 H0 (H.set rd (.list (ds.map rv))) o M rd ds rg ps:=by
 have nd:=D.nd
 have ne:=cN (u:=[]) nd
 have ms:∀ p∈ds++ps,p∈(ds++[d])++ps:=λp hp=>by
  rcases cu.mp hp with h |h
  ·exact cz _ (cz _ h)
  ·exact bg _ h
 have sub:(rd::rg::(ds++ps).map Prod.fst).Sublist (rd::rg::((ds++[d])++ps).map Prod.fst):=.cons_cons _ (.cons_cons _ (List.Sublist.map _ (List.Sublist.append (List.sublist_append_left _ _) (List.Sublist.refl _))))
 exact⟨aK D.h1 _,aE D.h2 (ne rg (by simp)).symm,λp hp=>aE (D.hd p (ms p hp)) (ne p.1 (bg _ (bq _ (fI (ms p hp))))).symm,nd.sublist sub,λx hx=>D.nf x (sub.subset hx)⟩
theorem D2.app{rd:Nat}{d:Nat×ae Op}(D:D2 H0 H o M rd (ds++[d]) rg ps)(w:ae Op):D2 H0 (H.set d.1 (.list (oG w))) o M rd (ds++[(d.1,w)]) rg ps:=by
 have nd:=D.nd
 have eq:rd::rg::((ds++[d])++ps).map Prod.fst=(rd::rg::ds.map Prod.fst)++d.1::ps.map Prod.fst:=by
  rw[au,au,bn];rfl
 have ne:=cN (eq▸nd)
 have eq2:rd::rg::((ds++[(d.1,w)])++ps).map Prod.fst=rd::rg::((ds++[d])++ps).map Prod.fst:=by
  refine rwL au (rwL au (rwL au (rwL au ?_)));rfl
 have hm:=D.hd d (cz _ (bg _ be))
 have h1:=D.h1
 rw[au]at h1
 refine⟨rwL au (aE h1 (ne rd (by simp)).symm),aE D.h2 (ne rg (by simp)).symm,λp hp=>?_,rwL eq2 nd,rwL eq2 D.nf⟩
 ·rcases cu.mp hp with h |h
  ·rcases cu.mp h with h |h
   ·exact aE (D.hd p (cz _ (cz _ h))) (ne p.1 (cz _ (bq _ (bq _ (fI h))))).symm
   ·exact rwL (cq.mp h) (aK hm _)
  ·exact aE (D.hd p (bg _ h)) (ne p.1 (bg _ (fI h))).symm
theorem D2.ext{rd:Nat}(D:D2 H0 H o M rd ds rg ps):DS H0 (H.set rd (.list (ds.map rv++ps.map rv))) o M rd (ds++ps):=by
 have nd:=D.nd
 have ne:=cN (u:=[]) nd
 have sub:(rd::(ds++ps).map Prod.fst).Sublist (rd::rg::(ds++ps).map Prod.fst):=.cons_cons _ (List.sublist_cons_self _ _)
 exact⟨rwL au (aK D.h1 _),λp hp=>aE (D.hd p hp) (ne p.1 (bg _ (bq _ (fI hp)))).symm,nd.sublist sub,λx hx=>D.nf x (sub.subset hx)⟩
theorem DS.cg{X:XX C}{rd:Nat}{ps:Gl}(S:Stt X H0 H o W M)(hs:s∈M)(D:DS H0 H o M rd ds)(G:CG oG X H H' s (o s) W' c ai ps)(ha:H[ai]? =none)(eW:W'=W s):D2 H0 H' (upn o s (aa c)) M rd ds ai ps:=by
 have U:=S.cg hs G
 have kp:∀ {r:Nat}{vs:ae V},Nw H0 o M r->H[r]? =aa (.list vs)->H'[r]? =aa (.list vs):=λ{r vs} N e=>U.2 r _ e nofun λa a=>eW
 have up:∀ {r:Nat},Nw H0 o M r->r≠c->Nw H0 (upn o s (aa c)) M r:=λ{r} N q=>⟨N.n,λt ht e=>by
  by_cases z:t=s
  ·subst z
   rw[fR]at e
   refine cyS e λzq=>?_;subst zq
   exact q rfl
  ·rw[dN _ _ z]at e
   exact N.o t ht e⟩
 have cn:∀ {r:Nat}{m:MO},Nw H0 o M r->H[r]? =aa m->r≠c:=λ{r m} N e q=>by
  rcases G.oc with z |⟨_,z⟩
  ·exact N.o s hs (q▸z)
  ·exact aF (z.symm.trans (q▸e))
 have old:∀ x∈rd::ds.map Prod.fst,∃ m,H[x]? =aa m:=λx hx=>by
  rcases cy.mp hx with rfl |hx
  ·exact⟨_,D.h1⟩
  ·obtain⟨p,hp,rfl⟩:=nu.mp hx
   exact⟨_,D.hd p hp⟩
 have nwx:∀ x∈ai::ps.map Prod.fst,H[x]? =none/\x≠c:=λx hx=>by
  rcases cy.mp hx with rfl |hx
  ·exact⟨ha,G.ac⟩
  ·obtain⟨p,hp,rfl⟩:=nu.mp hx
   have:=G.hd p hp
   exact⟨this.2.1,this.2.2.2⟩
 have pm:((rd::ds.map Prod.fst)++(ai::ps.map Prod.fst)).Perm (rd::ai::(ds++ps).map Prod.fst):=rwL au (.cons _ xh)
 refine⟨kp (D.nf rd be) D.h1,G.h,λp hp=>?_,pm.nodup_iff.mp ?_,λx hx=>?_⟩
 ·rcases cu.mp hp with h |h
  ·exact kp (D.nf p.1 (bq _ (fI h))) (D.hd p h)
  ·exact(G.hd p h).1
 ·rw[si]
  refine⟨D.nd,wc.mpr ⟨λh=>?_,G.nd⟩,λx hx y hy e=>?_⟩
  ·refine xEA (nu.mp h) λp hp e=>?_
   exact(G.hd p hp).2.2.1 e
  ·obtain⟨m,hm⟩:=old x hx
   exact aF ((nwx y hy).1.symm.trans (e▸hm))
 ·rcases cu.mp (pm.mem_iff.mpr hx) with h |h
  ·refine xE (old x h) λm hm=>?_
   exact up (D.nf x h) (cn (D.nf x h) hm)
  ·exact up (S.nw (nwx x h).1) (nwx x h).2
theorem aD9(n:Int):∀ (l c:ae Op),(dd n c l).length<=l.length+1/\∀ g∈dd n c l,g.length<=c.length+l.length+1:=λl=>by
 induction l with
 |nil=>
  intro c
  exact⟨Nat.le_refl 1,λg hg=>(rwL (cq.mp hg) (ym _))⟩
 |cons o l ih=>
  intro c
  rw[l7,di]
  cases gN n o with
  |false=>
   have:=ih (c++[o])
   rw[af,az]at this
   exact⟨by rw[jq];exact Yc266 this.1,λg hg=>by have:=this.2 g hg;exact Yc265 this⟩
  |true=>
   have:=ih [o.tl n]
   rw[fz,di]
   refine⟨Yc264 this.1,λg hg=>?_⟩
   rcases cy.mp hg with rfl |hg
   ·exact rwL af (rwL az Yc263)
   ·have:=this.2 g hg
    rw[az]at this
    exact Yc262 this
def kxT(C:Cx):SF:=cE (aA aQ (eN "places") (eN "k")) (cZ 2 (asC (aN "x") (asC (aN "y") asN)))
def kzT:SF:=aY "size" (aL bY (esC (aA aQ (eN "kept") (eN "k")) esN))
def kgE:EF:=(fK (hI X.gc 6 X.gv) [".0","group"] (iG (dJ (aU X) (aA aQ (eN "alone") (eN "k")) (esC (eN "n") esN))) (aN "group") (tK ak) (cD (aL (fM X) (esC (eN "group") (esC (eN "x") (esC (eN "y") esN))))))
def kIa:TF:=(aZ (tE (aA (bA λx y=>decide (x>y)) (eN "k") (eK (.int 0)))) (aZ (tE (aA (bA λx y=>decide (x<=y)) (eN "size") (aA lT (eK (.int 2)) (eN "n")))) (tK ak)))
def kJn:SF:=(aB (cE (aA aH (aA aH (wA (eN "due")) (bU (esC (aL (cA X) (esC (eN "x") (esC (eN "y") (esC (dM (eN "size")) (esC (eK (.int 0)) esN))))) esN))) (aA aQ (eN "groups") (eK (.int 0)))) (l8 (eN "groups") (eK (.int 0)))) (sK .next))
def kHd:SF:=(cE (aA aH (bU (esC (aL (cA X) (esC (eN "x") (esC (eN "y") (esC (dM (aL m6 (esC (eN "n") (esC (eN "size") esN)))) (esC (eK (.int 0)) esN))))) esN)) (aA aQ (eN "groups") (eK (.int 0)))) (l8 (eN "groups") (eK (.int 0))))
def kLa:SF:=(sIf (tE (aA (bA λx y=>decide (x>y)) (eN "k") (eK (.int 0)))) (aB (aW (b9 (aA aQ (eN "due") (dM (eK (.int 1)))) (aL (cA X) (esC (eN "x") (esC (eN "y") (esC (dM (eN "size")) (esC (aA cP (eN "n") (eN "size")) esN))))))) (sK .next)) (sK .next))
def kCt:SF:=(aB (sIf (tE (aA (bA λx y=>decide (x>y)) (eN "size") (eK (.int 0)))) (aB (kHd X) (aB (kLa X) (sK .next))) (sK .next)) (sK .next))
def kEx:SF:=(aB (aW (eExt (eN "due") (eN "groups"))) (sK .next))
def kB:SF:=aB (kxT C) (aB kzT (aB (aY "groups" (kgE X)) (aB (sIf kIa (kJn X) (kCt X)) kEx)))
theorem aBx(h:Evv f lo H (.int x)):Evv (dM f) lo H (.int (-x)):=λQ q=>h _ (Lf.mk (p:=x) rfl q)
def kN(rd rg:Nat)(n x y:Int)(z k:Nat):ae (Str×V):=[("groups",.ref rg),("size",.int (z:Nat)),("y",.int y),("x",.int x),("k",.int (k:Nat)),("due",.ref rd),("n",.int n)]
theorem kHd_i{X:XX C}{rd:Nat}{ps:Gl}(F:Fs (kN rd rg n x y z k) lo)(S:Stt X H0 H o W M)(D:D2 H0 H o M rd ds rg (g::ps))(gl:g.2.length<100000)(q:∀ {H' p},Stt X H0 H' o W M->D2 H0 H' o M rd ds rg ((p,kO x y (-(min n z)) 0::g.2)::ps)->K .next lo H'):kHd X lo H K:=by
 have hg:=D.hd g (bg _ be)
 have gG:=F ("groups" :Str) (.ref rg) ⋯
 refine lP (aI (pH (bS (aJ (aP (F _ (.int x) ⋯) (aJ (aP (F _ (.int y) ⋯) (aJ (aBx (λQ q=>bS (aJ (aP (F _ (.int n) ⋯) (aJ (aP (F _ (.int (z:Nat)) ⋯) (bD (min_e q))))))) _ (aJ (bK (bD (nG X (j9 ?_))))))))))))))
 have D1:=D.hx (Hx.app H [MO.list [(kO x y (-(min n (z:Nat))) 0).v]])
 have S1:=S.hx (Hx.app H [MO.list [(kO x y (-(min n (z:Nat))) 0).v]])
 have hg1:=Hx.app H [MO.list [(kO x y (-(min n (z:Nat))) 0).v]] _ _ hg
 have hl:=aV H (MO.list [(kO x y (-(min n (z:Nat))) 0).v])
 revert D1 S1 hg1 hl
 generalize H++[MO.list [(kO x y (-(min n (z:Nat))) 0).v]]=H1
 generalize H.length=p0
 intro D1 S1 hg1 hl
 have h2:=D1.h2
 rw[fp]at h2
 refine aI (aP gG (bK (Lp.mk (eZ (v:=.ref g.1) h2 (by decide) (mB _) rfl) (fX hl hg1 (by unfold oG;rw[ar];exact(Yc261 gl:1+g.2.length<1000000)) ?_))))
 have x2:=Hx.app H1 [MO.list ([(kO x y (-(min n (z:Nat))) 0).v]++oG g.2)]
 have D2':=D1.hx x2
 have h2':=D2'.h2
 rw[fp]at h2'
 have nw:=S1.nw (aM H1)
 refine aP gG (bK (Lf.mk (rA h2' (by decide) (mB _)) (q (p:=H1.length) ((S1.hx x2).set (D2'.nf rg (by simp)) D2'.h2) (D2'.put1 (w:=kO x y (-(min n z)) 0::g.2) (aV _ _) nw λy hy e=>?_))))
 subst e
 have:∃ m,H1[H1.length]? =aa m:=by
  rcases cy.mp hy with e |hy
  ·exact⟨_,e▸D1.h1⟩
  rcases cy.mp hy with e |hy
  ·exact⟨_,e▸D1.h2⟩
  ·exact xEA (nu.mp hy) λp hp e=>⟨_,e▸D1.hd p hp⟩
 obtain⟨m,hm⟩:=this
 exact aF ((aM H1).symm.trans hm)
theorem kLa_i{X:XX C}{rd:Nat}(F:Fs (kN rd rg n x y z k) lo)(S:Stt X H0 H o W M)(D:D2 H0 H o M rd ds rg ps)(ne:0<k->ds≠ [])(dl:∀ p∈ds,p.2.length<100000)(q:∀ {H' ds'},Stt X H0 H' o W M->D2 H0 H' o M rd ds' rg ps->ds'.map Prod.snd=(if 0<k then laP (ds.map Prod.snd) (kO x y (-z) (n-z)) else ds.map Prod.snd)->K .next lo H'):kLa X lo H K:=by
 refine kT (lL (aI (aP (F _ (.int (k:Nat)) ⋯) (bK (Lp.mk gt_e (Lf.mk (p:=decide ((k:Int)>0)) rfl ?_))))))
 by_cases c:0<k
 ·refine rwL (ay (show(k:Int)>0 by exact aFc c)) ?_
  rcases jO ds with e |⟨l,d,rfl⟩
  ·exact bw e (ne c)
  have hm:=D.hd d (cz _ (bg _ be))
  have h1:=D.h1
  rw[au]at h1
  have N:=D.nf d.1 (bq _ (bq _ (fI (cz _ (bg _ be)))))
  refine b3 (aO (pM (λqq=>aI (aP (F _ (.ref rd) ⋯) (i9 (Lp.mk (jQ (v:=.ref d.1) h1) qq)))) hm (bS (aJ (aP (F _ (.int x) ⋯) (aJ (aP (F _ (.int y) ⋯) (aJ (aBx (.n (F _ (.int (z:Nat)) ⋯)) _ (aJ (aI (aP (F _ (.int n) ⋯) (aP (F _ (.int (z:Nat)) ⋯) (sub_i (bD (nG X (jL hm ?_ (aS ?_))))))))))))))))))
  ·have:=dl d (bg _ be)
   unfold oG
   rw[ar];exact aE7 this
  ·have e:oG d.2++[(kO x y (-(z:Nat)) (n-(z:Nat))).v]=oG (d.2++[kO x y (-(z:Nat)) (n-(z:Nat))]):=by
    unfold oG
    refine rwL au ?_;rfl
   exact rwL e (q (S.set N hm) (D.app _) (rwL (bo c) (rwL au (rwL au ((uA _ _ _).symm)))))
 ·exact rwL (cc (show¬(k:Int)>0 by exact aE6 c)) (bT (q S D (by exact rwL (bc c) rfl)))
theorem D2.old{rd:Nat}(D:D2 H0 H o M rd ds rg ps):∀ y∈rd::rg::(ds++ps).map Prod.fst,∃ m,H[y]? =aa m:=λy hy=>by
 rcases cy.mp hy with e |hy
 ·exact⟨_,e▸D.h1⟩
 rcases cy.mp hy with e |hy
 ·exact⟨_,e▸D.h2⟩
 ·exact xEA (nu.mp hy) λp hp e=>⟨_,e▸D.hd p hp⟩
theorem kJn_i{X:XX C}{rd:Nat}{ps:Gl}(F:Fs (kN rd rg n x y z k) lo)(S:Stt X H0 H o W M)(D:D2 H0 H o M rd (ds++[d]) rg (g::ps))(gl:g.2.length<100000)(dl:d.2.length<100000)(l1:ds.length<100000)(q:∀ {H' p},Stt X H0 H' o W M->D2 H0 H' o M rd ds rg ((p,(d.2++[kO x y (-z) 0])++g.2)::ps)->K .next lo H'):kJn X lo H K:=by
 have gG:=F ("groups" :Str) (.ref rg) ⋯
 have hd:=D.hd d (cz _ (bg _ be))
 have h1:=D.h1
 rw[au]at h1
 have Dp:=D.pop
 have Sp:=S.set (ws:=ds.map rv) (D.nf rd be) D.h1
 have nd1:d.1≠rd:=cN (u:=[]) D.nd d.1 (by simp)
 have hd':=aE (m':=MO.list (ds.map rv)) hd nd1.symm
 refine aO (lP (aI (aI (pop_i (v:=.ref d.1) (F _ (.ref rd) ⋯) h1 (by rw[ar];exact Yc275 l1) ?_))))
 revert Dp Sp hd'
 generalize H.set rd (.list (ds.map rv))=H1
 intro Dp Sp hd'
 refine pH (bS (aJ (aP (F _ (.int x) ⋯) (aJ (aP (F _ (.int y) ⋯) (aJ (aBx (.n (F _ (.int (z:Nat)) ⋯)) _ (aJ (bK (bD (nG X (j9 (fX (Hx.app _ _ _ _ hd') (aV _ _) (by unfold oG;rw[ar];exact(Yc274 dl:d.2.length+1<1000000)) ?_)))))))))))))
 have x2:Hx H1 (H1++[MO.list [(kO x y (-(z:Nat)) 0).v]]++[MO.list (oG d.2++[(kO x y (-(z:Nat)) 0).v])]):=(Hx.app _ _).trans (.app _ _)
 have hl:=aV (H1++[MO.list [(kO x y (-(z:Nat)) 0).v]]) (MO.list (oG d.2++[(kO x y (-(z:Nat)) 0).v]))
 have D1:=Dp.hx x2
 have S1:=Sp.hx x2
 revert D1 S1 hl
 generalize H1++[MO.list [(kO x y (-(z:Nat)) 0).v]]++[MO.list (oG d.2++[(kO x y (-(z:Nat)) 0).v])]=H2
 generalize (H1++[MO.list [(kO x y (-(z:Nat)) 0).v]]).length=p0
 intro hl D1 S1
 have hg1:=D1.hd g (bg _ be)
 have h2:=D1.h2
 rw[fp]at h2
 have el:oG d.2++[(kO x y (-(z:Nat)) 0).v]=oG (d.2++[kO x y (-(z:Nat)) 0]):=by
  unfold oG
  refine rwL au ?_;rfl
 rw[el]at hl
 refine aI (aP gG (bK (Lp.mk (eZ (v:=.ref g.1) h2 (by decide) (mB _) rfl) (fX hl hg1 (by unfold oG;rw[ar,ar,af,az];exact Yc273 gl dl) ?_))))
 have el2:oG (d.2++[kO x y (-(z:Nat)) 0])++oG g.2=oG ((d.2++[kO x y (-(z:Nat)) 0])++g.2):=by
  unfold oG
  exact rwR au rfl
 refine rwL el2 ?_
 have x3:=Hx.app H2 [MO.list (oG ((d.2++[kO x y (-(z:Nat)) 0])++g.2))]
 have D2':=D1.hx x3
 have h2':=D2'.h2
 rw[fp]at h2'
 have nw:=S1.nw (aM H2)
 refine aP gG (bK (Lf.mk (rA h2' (by decide) (mB _)) (aS (q (p:=H2.length) ((S1.hx x3).set (D2'.nf rg (by simp)) D2'.h2) (D2'.put1 (w:=(d.2++[kO x y (-(z:Nat)) 0])++g.2) (aV _ _) nw λy hy e=>?_)))))
 subst e
 obtain⟨m,hm⟩:=D1.old _ hy
 exact aF ((aM H2).symm.trans hm)
theorem aCs{X:XX C}{rd:Nat}(F:Fs (kN rd rg n x y z k) lo)(S:Stt X H0 H o W M)(D:D2 H0 H o M rd ds rg ps)(l1:ds.length<100000)(l2:ps.length<100000)(q:∀ {H'},Stt X H0 H' o W M->DS H0 H' o M rd (ds++ps)->K .next lo H'):kEx lo H K:=by
 refine aO (extn_i (F _ (.ref rd) ⋯) D.h1 (aP (F _ (.ref rg) ⋯) (extK_i D.h1 D.h2 (by rw[ar,ar];exact Yc272 l1 l2) (aS (q (S.set (D.nf rd be) D.h1) D.ext)))))
theorem aGt{X:XX C}{rd:Nat}(F:Fs (kN rd rg n x y z k) lo)(S:Stt X H0 H o W M)(D:D2 H0 H o M rd ds rg ps)(pn:ps≠ [])(ne:0<k->ds≠ [])(z0:0<z\/k=0)(k0:k=0->ds= [])(dl:∀ p∈ds,p.2.length<10000)(pl:∀ p∈ps,p.2.length<10000)(l1:ds.length<10000)(l2:ps.length<10000)(q:∀ {H' ds'},Stt X H0 H' o W M->DS H0 H' o M rd ds'->ds'.map Prod.snd=g6 n k x y z (ps.map Prod.snd) (ds.map Prod.snd)->K .next lo H'):aB (sIf kIa (kJn X) (kCt X)) kEx lo H K:=by
 rcases List.exists_cons_of_ne_nil pn with ⟨g,ps',rfl⟩
 have pg:=pl g be
 rw[di]at l2
 refine aO (kT (wX (b:=decide ((k:Int)>0)) (c:=decide ((z:Int)<=2*n)) (λR qq=>lL (aI (aP (F _ (.int (k:Nat)) ⋯) (bK (Lp.mk gt_e (Lf.mk (p:=decide ((k:Int)>0)) rfl qq)))))) (λR qq=>lL (aI (aP (F _ (.int (z:Nat)) ⋯) (aI (bK (aP (F _ (.int n) ⋯) (Lp.mk (tY (by decide)) (Lp.mk le_e (Lf.mk (p:=decide ((z:Int)<=2*n)) rfl qq))))))))) ?_))
 unfold g6 at q
 by_cases c:0<k/\(z:Int)<=2*n
 ·refine rwL (ay (show(k:Int)>0 by exact Yc271 c)) (rwL (ay c.2) ?_)
  rcases jO ds with e |⟨l,d,rfl⟩
  ·exact bw e (ne c.1)
  rw[af,az]at l1
  have dd:=dl d (bg _ be)
  rw[bo c]at q
  refine b3 (kJn_i F S D (pN pg) (pN dd) (Yc270 l1) λ{H' p} S' D'=>aS (aCs F S' D' (Yc270 l1) (rwL di (aE5 l2)) λ{H2} S2 D2=>q S2 D2 (rwL au (rwL au ?_))))
  show l.map Prod.snd++(((d.2++[kO x y (-(z:Nat)) 0])++g.2)::ps'.map Prod.snd)=(l.map Prod.snd++[d.2]).dropLast++hdP (((l.map Prod.snd++[d.2]).getLast?).getD []++[kO x y (-(z:Nat)) 0]) (g.2::ps'.map Prod.snd)
  refine rwL List.dropLast_concat (rwL List.getLast?_concat ?_);rfl
 ·have b:(decide ((k:Int)>0) && decide ((z:Int)<=2*n))=am:=by
   by_cases c1:0<k
   ·rw[cc (show¬(z:Int)<=2*n from λh=>c ⟨c1,h⟩),Bool.and_false]
   ·refine rwL (cc (show¬(k:Int)>0 by exact aE6 c1)) ?_;rfl
  refine rwL b ?_
  rw[bc c]at q
  refine bT (aO (kT (lL (aI (aP (F _ (.int (z:Nat)) ⋯) (bK (Lp.mk gt_e (Lf.mk (p:=decide ((z:Int)>0)) rfl ?_))))))))
  by_cases z1:0<z
  ·refine rwL (ay (show(z:Int)>0 by exact aFc z1)) ?_
   rw[bo z1]at q
   refine b3 (aO (kHd_i F S D (pN pg) λ{H' p} S' D'=>aS (aO (kLa_i F S' D' ne (λp hp=>by have:=dl p hp;exact pN this) λ{H2 ds'} S2 D2 e2=>aS (aS (aS (aCs F S2 D2 ?_ (rwL di (aE5 l2)) λ{H3} S3 D3=>q S3 D3 ?_)))))))
   ·have:=ei List.length e2
    rw[ar]at this
    by_cases c1:0<k
    ·rw[bo c1]at this
     unfold laP at this
     rw[af,List.length_dropLast,ar,az]at this
     exact Yc269 l1 this
    ·rw[bc c1,ar]at this
     exact Yc268 l1 this
   ·refine rwL au (rwL e2 (rwL fp (rwL fp ?_)))
    by_cases c1:0<k
    ·refine rwL (bo c1) ?_;rfl
    ·refine rwL (bc c1) ?_;rfl
  ·rw[cc (show¬(z:Int)>0 by exact aE6 z1)]
   rw[bc z1]at q
   exact bT (aS (aS (aCs F S D (pN l1) (rwL di (aE5 l2)) λ{H2} S2 D2=>q S2 D2 (au ..))))
set_option tactic.hygienic true in
theorem y7{b:Nat}(gn:G≠ [])(dn:0<k->D≠ [])(hg:∀ g∈G,g.length<=202)(hd:∀ d∈D,d.length<=b):(g6 n k x y z G D).length<=D.length+G.length/\∀ g∈g6 n k x y z G D,g.length<=b+204:=by
 rcases List.exists_cons_of_ne_nil gn with ⟨g,G',rfl⟩
 have g0:=hg g be
 have gs:∀ h∈G',h.length<=b+204:=λh hh=>by have:=hg h (bq _ hh);exact Yc279 this
 unfold g6
 refine rwL di ?_
 split
 ·rename_i c
  rcases jO D with e |⟨l,d,rfl⟩
  ·exact bw e (dn c.1)
  ·have d0:=hd d (bg _ be)
   rw[List.dropLast_concat,List.getLast?_concat,uE,af,af,di,az]
   refine⟨Yc286,λh hh=>?_⟩
   rcases cu.mp hh with hh |hh
   ·have:=hd h (cz _ hh);exact yS this
   ·rcases cy.mp hh with rfl |hh
    ·exact rwL af (rwL af (rwL az (Yc285 g0 d0:d.length+1+g.length<=_)))
    ·exact gs h hh
 ·split
  ·rw[uE]
   split
   ·rename_i c
    rcases jO D with e |⟨l,d,rfl⟩
    ·exact bw e (dn c)
    ·have d0:=hd d (bg _ be)
     rw[uA]
     refine⟨by simp only[af,di,og];exact Yc284,λh hh=>?_⟩
     rcases cu.mp hh with hh |hh
     ·rcases cu.mp hh with hh |hh
      ·have:=hd h (cz _ hh);exact yS this
      ·exact rwL (cq.mp hh) (rwL af (rwL az (Yc283 d0)))
     ·rcases cy.mp hh with rfl |hh
      ·exact rwL af (rwL az (Yc282 g0))
      ·exact gs h hh
   ·refine rwL af (rwL di ⟨Yc281,λh hh=>?_⟩)
    rcases cu.mp hh with hh |hh
    ·have:=hd h hh;exact yS this
    ·rcases cy.mp hh with rfl |hh
     ·exact rwL af (rwL az (Yc282 g0))
     ·exact gs h hh
  ·refine rwL af (rwL di ⟨Yc281,λh hh=>?_⟩)
   rcases cu.mp hh with hh |hh
   ·have:=hd h hh;exact yS this
   ·have:=hg h hh;exact Yc279 this
structure S0(H0:MH)(M:ae Nat)(rc rp rk ra:Nat)(cs:ae Ch)(kp:ae (Nat×ae Int))(ms:ae Nat)(segs:ae Sgm):Prop where
 hc:H0[rc]? =aa (.list (cs.map Ch.v))
 hp:H0[rp]? =aa (.list ((plc 0 0 segs).map pv))
 hk:H0[rk]? =aa (.list (kp.map rv))
 hq:HB iL_ H0 kp
 ha:H0[ra]? =aa (.list (ms.map V.ref))
 lc:cs.length=segs.length
 lm:ms.length=segs.length
 lk:kp.length=segs.length+1
 l5:segs.length<=5
 kK:∀ (k:Nat) s q,segs[k]? =aa s->kp[k]? =aa q->s.K=q.2
 ok:∀ s∈segs,Ce s.L/\s.L.length<=200/\s.K.length<100
 p:∀ (k:Nat) s,segs[k]? =aa s->0<k->0<s.K.length
 mM:∀ s∈ms,s∈M
 nd:ms.Nodup
def dF(rd:Nat)(n:Int)(rc rp rk ra sw sm rh:Nat)(ends:V):ae (Str×V):=[("due",.ref rd),("n",.int n),("places",.ref rp),("kept",.ref rk),("alone",.ref ra),("chapters",.ref rc),("whole",.ref sw),("same",.ref sm),("changes",.ref rh),("ends",ends)]
inductive LKk(X:XX C)(H0:MH)(M:ae Nat)(Wo:Nat->ae Op)(n:Int)(rd rc rp rk ra sw sm rh:Nat)(ends:V)(ms:ae Nat)(segs:ae Sgm)(total:ae (ae Op))(x:Int)(lo:Lo)(H:MH):Prop
 |mk {k:Nat}{o:Nat->aj Nat}{W:Nat->ae Op}{ds:Gl}{u v:Int} (ex:x=(k:Nat)) (F:Fs (dF rd n rc rp rk ra sw sm rh ends) lo) (S:Stt X H0 H o W M) (D:DS H0 H o M rd ds) (w:∀ (i:Nat) s sg,ms[i]? =aa s->segs[i]? =aa sg->W s=sg.L) (wo:∀ s∈M,s∉ms->W s=Wo s) (oo:∀ (i:Nat) s,i<k->ms[i]? =aa s->o s≠none)
  (pe:(plc 0 0 segs).drop k=plc u v (segs.drop k)) (de:sQ n k u v (ds.map Prod.snd) (segs.drop k)=total) (k1:0<k->ds≠ []) (k0:k=0->ds= []) (b1:ds.length<=300*k) (b2:∀ p∈ds,p.2.length<=300*k):LKk X H0 M Wo n rd rc rp rk ra sw sm rh ends ms segs total x lo H
theorem at_n(hk:lo "k" =aa (nv k))(hx:lo nm=aa (.ref r))(h:H[r]? =aa (.list vs))(hv:vs[k]? =aa v)(hl:vs.length<100000)(q:R v H):aA aQ (eN nm) (eN "k") lo H R:=aI (aP hx (aP hk (at_k h hv hl q)))
theorem kgE_i{X:XX C}{rd:Nat}(Z:S0 H0 M rc rp rk ra cs kp ms segs)(S:Stt X H0 H o W M)(D:DS H0 H o M rd ds)(hs:ms[k]? =aa s)(eL:W s=L)(ce:Ce L)(ll:L.length<=200)(G:Fs [("k",nv k),("n",.int n),("x",.int u),("y",.int v),("alone",.ref ra)] lo)(q:∀ {H' ai c}{ps:Gl},Stt X H0 H' (upn o s (aa c)) (upn W s L) M->D2 H0 H' (upn o s (aa c)) M rd ds ai ps->ps.map Prod.snd=mv u v n L->R (.ref ai) H'):kgE X lo H R:=by
 have sM:=Z.mM s (dm hs)
 have Ms:=S.mst sM
 have eg:groups n L=dd n [] L:=ce.groups n
 have dl:=aD9 n L []
 have hv:(ms.map V.ref)[k]? =aa (.ref s):=by refine rwL jm (rwL hs ?_);rfl
 have l5:=Z.l5
 have lm:=Z.lm
 obtain⟨ff,hi⟩:=Ms.o
 refine at_n (G _ (nv k) ⋯) (G _ (.ref ra) ⋯) (S.ni _ _ Z.ha nofun) hv (by rw[ar];exact Yc278 l5 lm) (Lf.mk (p:=s) rfl ⟨⟨_,hi⟩,aJ (aP (G _ (.int n) ⋯) (bD ⟨rfl,Lf.mk (p:=H.length) rfl ⟨⟨_,aV _ _⟩,aEe X (hid:=[".0","group"]) (x:="group") (E:=(aL (fM X) (esC (eN "group") (esC (eN "x") (esC (eN "y") esN))))) (lo:=lo) (Q:=R) oG (λg=>g.map (shO u v)) (Fs [("x",.int u),("y",.int v)]) Ms (rwL eL ll) (rwL eL (rwL eg (Yc277 ll dl.1))) ((G.re [("x",.int u),("y",.int v)] ⋯).hide ⋯) (λg hg {lo1 H1 r P} i kp hr cont=>?_) λ{H' c ps} Gc e=>?_⟩⟩))⟩)
 ·rw[eL,eg]at hg
  have gl:=dl.2 g hg
  have i':=i.up (y:="group") (w:=.ref r) ⋯
  exact tB (bS (aJ (aP fJ (aJ (aP (i' _ (.int u) ⋯) (aJ (aP (i' _ (.int v) ⋯) (bD (aB1 X hr (by rw[og]at gl;exact Yc276 ll gl) λ{H2 r'} x1 h1 f1=>cont i' x1 h1 f1)))))))))
 ·have ef:cQ n (W s)=W s:=rwL eL (ce.fix n)
  have U:=S.cg sM Gc
  have Dd:=DS.cg S sM D Gc (Hx.app H _).fresh ef
  rw[ef,eL]at U
  refine q U.1 Dd (rwL e (rwL eL ?_));rfl
theorem aA2(gn:G≠ []):g6 n k x y z G D≠ []:=by
 unfold g6 hdP
 intro h
 split at h
 ·exact bw (iq.mp h).2 nofun
 ·split at h
  ·exact bw (iq.mp h).2 nofun
  ·exact gn (iq.mp h).2
theorem kxT_i(gk:lo "k" =aa (nv k))(gp:lo "places" =aa (.ref r))(h:H[r]? =aa (.list vs))(hv:vs[k]? =aa (pv (x,y)))(hl:vs.length<100000)(q:K .next (upd (upd lo "x" (.int x)) "y" (.int y)) H):kxT C lo H K:=lP (at_n gk gp h hv hl (kch (B:=(2=2/\K .next (upd (upd lo "x" (.int x)) "y" (.int y)) H)) ⋯ ⟨rfl,q⟩))
theorem kzT_i(gk:lo "k" =aa (nv k))(gp:lo "kept" =aa (.ref r))(h:H[r]? =aa (.list vs))(hv:vs[k]? =aa (.ref rz))(hl:vs.length<100000)(hz:H[rz]? =aa (.list (iL_ l)))(lz:l.length<1000)(q:K .next (upd lo "size" (.int (l.length:Nat))) H):kzT lo H K:=by
 have lm:(iL_ l).length=l.length:=ar ..
 exact eV (bS (aJ (at_n gk gp h hv hl (bD (rP (aR hz) (rwL lm (pO lz)) (rwL lm q))))))
theorem plc_at(e:(plc 0 0 segs).drop k=plc u v (s::l)):(plc 0 0 segs)[k]? =aa (u+s.K.length,v+s.K.length)/\(plc 0 0 segs).drop (k+1)=plc (u+s.K.length+s.A.length) (v+s.K.length+s.B.length) l:=by
 have e:(plc 0 0 segs).drop k=(u+(s.K.length:Int),v+(s.K.length:Int))::plc (u+s.K.length+s.A.length) (v+s.K.length+s.B.length) l:=e
 refine⟨?_,?_⟩
 ·refine rwR yh (rwL e ?_);rfl
 ·refine rwR List.tail_drop (rwL e ?_);rfl
theorem k_step{X:XX C}{rd:Nat}{x:Int}(Z:S0 H0 M rc rp rk ra cs kp ms segs)(xe:x<cs.length)(J:LKk X H0 M Wo n rd rc rp rk ra sw sm rh ends ms segs total x lo H)(go:GoK (LKk X H0 M Wo n rd rc rp rk ra sw sm rh ends ms segs total (x+1)) Q K):aN "k" (.int x) lo H λlo1 H1=>kB X lo1 H1 K:=by
 cases J with
 | @mk k o W ds u v ex F S D w wo oo pe de k1 k0 b1 b2=>
 subst ex
 have lc:=Z.lc
 have lm:=Z.lm
 have lk:=Z.lk
 have l5:=Z.l5
 have kl:k<segs.length:=Yc295 xe lc
 have esg:=df kl
 have ekp:=df (show k<kp.length by exact Yc244 lk kl)
 have ems:=df (show k<ms.length by exact Yc294 lm kl)
 have ed:segs.drop k=segs[k]::segs.drop (k+1):=List.drop_eq_getElem_cons kl
 revert esg ekp ems ed
 generalize segs[k]=sg
 generalize kp[k]=q
 generalize ms[k]=s
 intro esg ekp ems ed
 rw[ed]at pe de
 have pl:=plc_at pe
 have ok:=Z.ok sg (dm esg)
 have hq:=Z.hq q (dm ekp)
 have eQ:=Z.kK k sg q esg ekp
 have lq:q.2.length=sg.K.length:=by exact rwL eQ rfl
 have hpv:((plc 0 0 segs).map pv)[k]? =aa (pv (u+sg.K.length,v+sg.K.length)):=by refine rwL jm (rwL pl.1 ?_);rfl
 have hkv:(kp.map rv)[k]? =aa (.ref q.1):=by refine rwL jm (rwL ekp ?_);rfl
 have lpp:((plc 0 0 segs).map pv).length=segs.length:=by rw[ar,w8]
 have G:=F.cons "k" (nv k)
 refine(?_:kB X (upd lo "k" (nv k)) H K)
 revert G
 generalize upd lo "k" (nv k)=lo1
 intro G
 refine aO (kxT_i (G _ (nv k) ⋯) (G _ (.ref rp) ⋯) (S.ni _ _ Z.hp nofun) hpv (Yc278 l5 lpp) (aS ?_))
 have G:=(G.cons "x" (.int (u+sg.K.length))).cons "y" (.int (v+sg.K.length))
 revert G
 generalize upd (upd lo1 "x" (.int (u+sg.K.length))) "y" (.int (v+sg.K.length))=lo2
 intro G
 refine aO (kzT_i (G _ (nv k) ⋯) (G _ (.ref rk) ⋯) (S.ni _ _ Z.hk nofun) hkv (by rw[ar];exact Yc243 lk l5) (S.ni _ _ hq nofun) (Yc293 ok.2 lq) (aS (rwL lq ?_)))
 have G:=G.cons "size" (.int (sg.K.length:Nat))
 revert G
 generalize upd lo2 "size" (.int (sg.K.length:Nat))=lo3
 intro G
 refine aO (eV (kgE_i (n:=n) (u:=u+sg.K.length) (v:=v+sg.K.length) Z S D ems (w k s sg ems esg) ok.1 ok.2.1 (G.re _ ⋯) λ{H' ai c ps} S' D' e=>aS ?_))
 have eW:upn W s sg.L=W:=funext λt=>by
  by_cases z:t=s
  ·rw[z,fR,w k s sg ems esg]
  ·exact dN _ _ z
 rw[eW]at S'
 have G:=G.cons "groups" (.ref ai)
 revert G
 generalize upd lo3 "groups" (.ref ai)=lo4
 intro G
 have dl:=aD9 n (sg.L.map (shO (u+sg.K.length) (v+sg.K.length))) []
 rw[<-xG ok.1,<-e,ar,ar,og]at dl
 have pn:ps.map Prod.snd≠ []:=by
  rw[e,xG ok.1]
  refine xEE (aD8 (n:=n) [] (sg.L.map (shO (u+sg.K.length) (v+sg.K.length)))) λg G' z=>rwL z ?_;nofun
 have sb:=y7 (n:=n) (k:=k) (x:=u+sg.K.length) (y:=v+sg.K.length) (z:=sg.K.length) (b:=300*k) (G:=ps.map Prod.snd) (D:=ds.map Prod.snd) pn (λh z=>k1 h (pj.mp z)) (λg hg=>by have:=dl.2 g hg;exact Yc292 ok.2 this) (λd hd=>by
  obtain⟨p,hp,rfl⟩:=nu.mp hd
  exact b2 p hp)
 have sn:=aA2 (n:=n) (k:=k) (x:=u+sg.K.length) (y:=v+sg.K.length) (z:=sg.K.length) (D:=ds.map Prod.snd) pn
 rw[ar,ar]at sb
 have z0:0<sg.K.length\/k=0:=by
  by_cases h:0<k
  ·exact .inl (Z.p k sg esg h)
  ·exact .inr (aFb h)
 refine aGt (rd:=rd) (rg:=ai) (n:=n) (x:=u+sg.K.length) (y:=v+sg.K.length) (z:=sg.K.length) (k:=k) (G.re _ ⋯) S' D' (λz=>pn (by refine rwL z ?_;rfl)) k1 z0 k0 (λp hp=>by have:=b2 p hp;omega) (λp hp=>by have:=dl.2 p.2 (ly hp);exact Yc291 ok.2 this) (by omega) (Yc290 ok.2 dl.1) λ{H2 ds'} S2 D2 e2=>?_
 rw[<-e2,ar]at sb
 rw[<-e2]at sn
 refine go.nx (.mk (k:=k+1) Yc289 (G.re _ ⋯) S2 D2 w wo (λi t hi ht=>?_) pl.2 ?_ (λa z=>sn (by refine rwL z ?_;rfl)) (λz=>bw z (qw k)) (Yc288 b1 ok.2 dl.1 sb.1) λp hp=>?_)
 ·by_cases z:t=s
  ·rw[z,fR];nofun
  ·refine rwL (dN _ _ z) (oo i t ?_ ht)
   rcases Nat.lt_succ_iff_lt_or_eq.mp hi with h |h
   ·exact h
   ·subst h
    exact bw (Option.some.inj (ht.symm.trans ems)) z
 ·exact rwL e2 (rwL e de)
 ·have:=sb.2 p.2 (ly hp)
  exact Yc287 this
def nKl:EF:=aA aQ (eN "kept") (dM (eK (.int 1)))
def nEd:SF:=(sIf (tE (aA (bG not) nKl (bU esN))) (aB (aW (b9 (aA aQ (eN "due") (dM (eK (.int 1)))) (aL (cA X) (esC (aA aQ (eN "ends") (eK (.int 0))) (esC (aA aQ (eN "ends") (eK (.int 1))) (esC (eK (.int 0)) (esC (aL m6 (esC (eN "n") (esC (aL bY (esC nKl esN)) esN))) esN))))))) (sK .next)) (sK .next))
def nWh:EF:=(eIf (tE (aA (bG id) (eN "n") (eK (.int 3)))) (dJ (bV X) (eN "whole") esN) (dJ (aU X) (eN "whole") (esC (eN "n") esN)))
def nCE(C:Cx):EF:=(fK (bZ C) [".0","group","row"] (iL (eN "told")) (aN "group") (tK ak) (qW (bZ C) (iL (eN "group")) (aN "row") rwT (cD (eN "row"))))
def nFs:SF:=(aB (i6 (eK (.bool am))) (sK .next))
def nCm(C:Cx):SF:=(sIf (tOr (tE (aA (bG not) (eN "told") (eN "due"))) (tOr (tE (aA (bG not) (nCE C) (eN "changes"))) (tK am))) nFs (sK .next))
def nSa:SF:=(sIf (tE (aA (bG not) (aL (dD (hI X.gc 6 X.gv) (λi=>i)) (esC (dJ (aU X) (eN "same") (esC (eN "n") esN)) esN)) (bU esN))) nFs (sK .next))
def nBd:SF:=(aB (aY "due" (bU esN)) (aB (g8 (hF C) (iR (eRL "chapters")) (aN "k") (kB X)) (aB (nEd X) (aB (aY "told" (aL (dD (hI X.gc 6 X.gv) (λi=>i)) (esC (nWh X) esN))) (aB (nCm C) (aB (nSa X) (sK .next)))))))
theorem zO:pF X=g8 (hF C) (iR (aL cY (esC (eK (.int 8)) (esC (dM (eK (.int 1))) (esC (dM (eK (.int 1))) esN))))) (aN "n") (nBd X):=rfl
theorem DS.app{rd:Nat}{d:Nat×ae Op}(D:DS H0 H o M rd (ds++[d]))(w:ae Op):DS H0 (H.set d.1 (.list (oG w))) o M rd (ds++[(d.1,w)]):=by
 have nd:=D.nd
 have eq:rd::(ds++[d]).map Prod.fst=(rd::ds.map Prod.fst)++d.1::[]:=by
  refine rwL au ?_;rfl
 have ne:=cN (eq▸nd)
 have eq2:rd::(ds++[(d.1,w)]).map Prod.fst=rd::(ds++[d]).map Prod.fst:=by
  refine rwL au (rwL au ?_);rfl
 have hm:=D.hd d (bg _ be)
 have h1:=D.h1
 rw[au]at h1
 refine⟨rwL au (aE h1 (ne rd (by simp)).symm),λp hp=>?_,rwL eq2 nd,rwL eq2 D.nf⟩
 ·rcases cu.mp hp with h |h
  ·exact aE (D.hd p (cz _ h)) (ne p.1 (cz _ (bq _ (fI h)))).symm
  ·exact rwL (cq.mp h) (aK hm _)
theorem end_i{X:XX C}{rd:Nat}{Km:ae Int}(F:Fs (dF rd n rc rp rk ra sw sm rh (.tup [.int xe,.int ye])) lo)(S:Stt X H0 H o W M)(D:DS H0 H o M rd ds)(dn:ds≠ [])(hk:H0[rk]? =aa (.list (kl++[.ref rm])))(hm:H0[rm]? =aa (.list (Km.map V.int)))(lk:Km.length<1000)(l1:ds.length<10000)(dl:∀ p∈ds,p.2.length<10000)(q:∀ {H' ds'},Stt X H0 H' o W M->DS H0 H' o M rd ds'->ds'.map Prod.snd=zU n xe ye Km.length (ds.map Prod.snd)->ds'.length=ds.length->K .next lo H'):nEd X lo H K:=by
 have gk:=F ("kept" :Str) (.ref rk) ⋯
 have S1:=S.hx (Hx.app H [MO.list []])
 have D1:=D.hx (Hx.app H [MO.list []])
 refine kT (lL (aI (aI (aP gk (i9 (Lp.mk (jQ (S.ni _ _ hk nofun)) (jD (eqE_i V.int dI (l:=Km) (aR (Hx.app _ _ _ _ (S.ni _ _ hm nofun))) (jC _ _) (λa a=>dI_rd _) (λa a=>dI_ok _) ?_))))))))
 revert S1 D1
 generalize H++[MO.list []]=H1
 intro S1 D1
 unfold zU at q
 cases ek:Km with
 |nil=>
  rw[ek]at q
  exact bT (q S1 D1 (bo rfl).symm rfl)
 |cons v l=>
  have z0:Km.length≠0:=rwL ek (qw _)
  rw[bc z0]at q
  rcases jO ds with e |⟨l',d,rfl⟩
  ·exact bw e dn
  have hd:=D1.hd d (bg _ be)
  have h1:=D1.h1
  rw[au]at h1
  have N:=D1.nf d.1 (bq _ (fI (bg _ be)))
  have lm:(Km.map V.int).length=Km.length:=ar ..
  have ge:=F ("ends" :Str) (.tup [.int xe,.int ye]) ⋯
  refine b3 (aO (pM (λqq=>aI (aP (F _ (.ref rd) ⋯) (i9 (Lp.mk (jQ (v:=.ref d.1) h1) qq)))) hd (bS (aJ (aI (aP ge (bK (Lp.mk (v:=.int xe) (H:=H1) ⋯ (aJ (aI (aP ge (bK (Lp.mk (v:=.int ye) (H:=H1) ⋯ (aJ (bK (aJ (bS (aJ (aP (F _ (.int n) ⋯) (aJ (bS (aJ (aI (aP gk (i9 (Lp.mk (jQ (S1.ni _ _ hk nofun)) (bD (rP (aR (S1.ni _ _ hm nofun)) (rwL lm (pO lk)) (bD (min_e (bD (nG X (jL hd ?_ (aS ?_))))))))))))))))))))))))))))))))))
  ·have:=dl d (bg _ be)
   unfold oG
   rw[ar];exact yT this
  ·refine rwL lm ?_
   have e:oG d.2++[(kO xe ye 0 (min n (Km.length:Nat))).v]=oG (d.2++[kO xe ye 0 (min n (Km.length:Nat))]):=by
    unfold oG
    refine rwL au ?_;rfl
   refine rwL e (q (S1.set N hd) (D1.app _) (rwL au (rwL au ((uA _ _ _).symm))) ?_)
   ·refine rwL af (rwL af ?_);rfl
theorem nWh_nf:nWh X lo H R=(Lf (lo "n") λm=>Lp (bG id m (.int 3) H) λv H1=>Lf (tr v H1) λt=>bif t then(Lf (lo "whole") λmm=>Lf mm.rf λi=>(∃ ff,H1[i]? =aa (.inst ff))/\bV X [.ref i] H1 R) else (Lf (lo "whole") λmm=>Lf mm.rf λi=>(∃ ff,H1[i]? =aa (.inst ff))/\Lf (lo "n") λm=>aU X [.ref i,m] H1 R)):=by rfl'
theorem nWh_i(gm:lo "whole" =aa (.ref s))(gn:lo "n" =aa (.int n))(o:∃ ff,H[s]? =aa (.inst ff))(k:R (.ref H.length) (H++[MO.gen (.fresh (loB ["self","n"] [.ref s,.int n] lo0))])):nWh X lo H R:=by
 refine kch (nWh_nf X) (Lf.mk gn (Lp.mk eqI_e (Lf.mk (p:=decide (n=3)) rfl ?_)))
 by_cases c:n=3
 ·refine rwL (ay c) (b3 (Lf.mk gm (Lf.mk (p:=s) rfl ⟨o,rfl,?_⟩)))
  rw[c]at k
  exact k
 ·exact rwL (cc c) (bT (Lf.mk gm (Lf.mk (p:=s) rfl ⟨o,rwL gn ⟨rfl,k⟩⟩)))
theorem DS.keep{X:XX C}{rd:Nat}{ob:β->ae V}(S:Stt X H0 H o W M)(hs:s∈M)(D:DS H0 H o M rd ds)(G:CG ob X H H' s (o s) W' c ai ps):H'[rd]? =aa (.list (ds.map rv))/\∀ p∈ds,H'[p.1]? =aa (.list (oG p.2)):=by
 refine xE (S.i s hs) λff hi=>?_
 have kp:∀ {r:Nat}{m:MO},Nw H0 o M r->H[r]? =aa m->H'[r]? =aa m:=λ{r m} N e=>G.kp r m (λq=>aF (N.n.symm.trans (q▸hi))) (N.o s hs) e
 exact⟨kp (D.nf rd be) D.h1,λp hp=>kp (D.nf p.1 (bq _ (fI hp))) (D.hd p hp)⟩
theorem gq_rd{ps:Gl}(hg:∀ p∈ps,H[p.1]? =aa (.list (oG p.2))):∀ p∈ps,Mine.Internal.rd H 7 (rv p)=aa (dG p):=λp hp=>iC (n:=6) Op.v dO (aR (hg p hp)) λo q=>dO_rd6 o
theorem aGw{ps gl:Gl}(h1:H[r1]? =aa (.list (ps.map rv)))(g1:∀ p∈ps,H[p.1]? =aa (.list (oG p.2)))(h2:H[r2]? =aa (.list (gl.map rv)))(g2:∀ p∈gl,H[p.1]? =aa (.list (oG p.2)))(e:ps.map Prod.snd=gl.map Prod.snd):eqv H (.ref r1) (.ref r2)=aa ak:=by
 have E:∀ l:Gl,l.map dG=(l.map Prod.snd).map λw=>PyData.list (w.map dO):=λl=>by refine rwL zg ?_;rfl
 have e2:ps.map dG=gl.map dG:=by rw[E,E,e]
 have q1:=iC (n:=7) rv dG (aR h1) (gq_rd g1)
 rw[e2]at q1
 exact uS q1 (iC (n:=7) rv dG (aR h2) (gq_rd g2)) (lS λp q=>dG_ok p)
theorem tor_i(h:f lo H λb H1=>bif b then P ak H1 else g lo H1 P):tOr f g lo H P:=h
theorem yW{K:ItK C}{fi:IF K}(q:fi (upd lo x v) H λit H1=>∃ n,lQ K tgt t (bf ai) n it (upd lo x v) H1 P):fW (aN x) (tK ak) (qW K fi tgt t bf ai) v lo H P:=q
theorem put_gr(hb:B[ai]? =none)(h:B[p.1]? =aa (.list (oG p.2))):Put (λa=>vt) B ai (p.2.flatMap λo=>bif !o.tag.isEq then [o.v] else []) (fW (aN "group") (tK ak) (qW (bZ C) (iL (eN "group")) (aN "row") rwT (cD (eN "row")) ai) (rv p)):=⟨λ{lo H acc P} i hx ha hl k=>yW (iL_i (f:=eN "group") (r:=p.1) (λq=>aP (v:=rv p) fJ q) (aR (hx _ _ h)) ⟨_,n7 Op.v (λo=>bif !o.tag.isEq then [o.v] else []) (λa=>vt) p.2 (jE (aR h) _ 0 rfl) (λo a=>w4 hb) trivial hx ha hl k⟩)⟩
theorem qM(ps:Gl):(ps.flatMap λp=>p.2.flatMap λo=>bif !o.tag.isEq then [o.v] else [])=(chF (ps.map Prod.snd).flatten).map Op.v:=by
 induction ps with
 |nil=>rfl
 |cons p ps ih=>rw[qa,ih,fp,we,iJ,au,pK]
theorem nCm_i{rd:Nat}{ds ps:Gl}(g1:lo "told" =aa (.ref rt))(g2:lo "due" =aa (.ref rd))(g3:lo "changes" =aa (.ref rh))(h1:H[rt]? =aa (.list (ps.map rv)))(b1:∀ p∈ps,H[p.1]? =aa (.list (oG p.2)))(h2:H[rd]? =aa (.list (ds.map rv)))(b2:∀ p∈ds,H[p.1]? =aa (.list (oG p.2)))(h3:H[rh]? =aa (.list (l.map Op.v)))(e:ps.map Prod.snd=ds.map Prod.snd)(ec:chF (ps.map Prod.snd).flatten=l)(ll:l.length<100000)(k:∀ {H'},Hx H H'->K .next lo H'):nCm C lo H K:=by
 refine kT (tor_i (lL (aI (aP g1 (aP g2 (ne_i (aGw h1 b1 h2 b2 e) (bT (tor_i (lL (aI (qU rv (λp=>p.2.flatMap λo=>bif !o.tag.isEq then [o.v] else []) (λq=>vt) ps g1 (aR h1) trivial (by rw[qM,ec,ar];exact aE7 ll) (λp hp=>put_gr (aM H) (b1 p hp)) λ{H'} hx h'=>aP g3 (ne_i (qQ (l:=l) Op.v dO (aR ?_) (aR (hx _ _ h3)) (λo q=>dO_rd o) λo q=>aEb o) (bT (tk_i (bT (k hx))))))))))))))))
 rw[<-ec,<-qM]
 exact h'
theorem aDi(Inv:Int->Lo->MH->Prop)(he:∀ {lo H},Inv e lo H->Q .next lo H)(hs:∀ {x lo H K},e<x->Inv x lo H->GoK (Inv (x+ -1)) Q K->tgt (.int x) lo H λlo1 H1=>body lo1 H1 K):∀ (n:Nat) (x:Int){lo:Lo}{H:MH},x-n=e->Inv x lo H->cU (hF C) tgt body (n+1) (x,n,-1) lo H Q:=λn=>by
 induction n with
 |zero=>
  intro x lo H hd h
  have:x=e:=Yc304 hd
  subst this
  exact he h
 |succ n ih=>
  intro x lo H hd h
  exact hs (Yc303 hd) h (.loop λh'=>ih (x+ -1) (Yc302 hd) h')
theorem rng3_i{a b:Int}(q:Q (.rng a b (-1)) H):cY [.int a,.int b,.int (-1)] H Q:=kch (B:=Q (.rng a b (-1)) H) ⋯ q
theorem nSa_i{X:XX C}(gs:lo "same" =aa (.ref sm))(gn:lo "n" =aa (.int n))(S:Stt X H0 H o W M)(hs:sm∈M)(lw:(W sm).length<=200)(eg:groups n (W sm)= [])(k:∀ {H' c},Stt X H0 H' (upn o sm (aa c)) (upn W sm (cQ n (W sm))) M->K .next lo H'):nSa X lo H K:=by
 have Ms:=S.mst hs
 obtain⟨ff,hi⟩:=Ms.o
 refine kT (lL (aI (bS (aJ (show dJ (aU X) (eN "same") (esC (eN "n") esN) lo H _ from aP gs (Lf.mk (p:=sm) rfl ⟨⟨_,hi⟩,aJ (aP gn (bD ⟨rfl,bD (t8 X Ms lw (rwL eg (by decide:0<10000)) λ{H' c ai ps} G e ha=>?_)⟩))⟩))))))
 rw[eg]at e
 have:ps= []:=pj.mp e
 subst this
 refine jD (ne_i (qQ (l:=([]:ae Op)) Op.v dO (aR (Hx.app _ _ _ _ G.h)) (jC _ _) (λo q=>dO_rd o) λo q=>aEb o) (bT (k ((S.cg hs G).1.hx (.app _ _)))))
def nF(rc rp rk ra sw sm rh:Nat)(ends:V):ae (Str×V):=[("places",.ref rp),("kept",.ref rk),("alone",.ref ra),("chapters",.ref rc),("whole",.ref sw),("same",.ref sm),("changes",.ref rh),("ends",ends)]
structure S1(H0:MH)(M:ae Nat)(rk rh sw sm:Nat)(ms:ae Nat)(segs:ae Sgm)(kl:ae V)(rm:Nat)(Km:ae Int)(Wf Wz:ae Op)(xe ye:Int):Prop where
 hk:H0[rk]? =aa (.list (kl++[.ref rm]))
 hm:H0[rm]? =aa (.list (Km.map V.int))
 lk:Km.length<1000
 hh:H0[rh]? =aa (.list ((chF Wf).map Op.v))
 lf:Wf.length<=200
 lz:Wz.length<=200
 vf:∀ o,Wf= [o]->o.i1<=o.i2/\o.j1<=o.j2
 vz:∀ o,Wz= [o]->o.i1<=o.i2/\o.j1<=o.j2
 gz:∀ n,0<=n->groups n Wz= []
 gf:∀ n,0<=n->groups n Wf=zU n xe ye Km.length (sQ n 0 0 0 [] segs)/\chF (groups n Wf).flatten=chF Wf
 sn:segs≠ []
 wM:sw∈M
 sM:sm∈M
 wn:sw∉ms
 sn':sm∉ms
 ws:sw≠sm
 ce:∀ s∈segs,Ce s.L
inductive LN(X:XX C)(H0:MH)(M:ae Nat)(ms:ae Nat)(segs:ae Sgm)(Wf Wz:ae Op)(rc rp rk ra sw sm rh:Nat)(ends:V)(x:Int)(lo:Lo)(H:MH):Prop
 |mk {o:Nat->aj Nat}{W:Nat->ae Op} (F:Fs (nF rc rp rk ra sw sm rh ends) lo) (S:Stt X H0 H o W M) (w:∀ (i:Nat) s sg,ms[i]? =aa s->segs[i]? =aa sg->W s=sg.L) (gw:∀ m,0<=m->m<=x->groups m (W sw)=groups m Wf/\cQ m (W sw)=cQ m Wf) (gs:∀ m,0<=m->m<=x->groups m (W sm)=groups m Wz/\cQ m (W sm)=cQ m Wz) (lw:(W sw).length<=200) (ls:(W sm).length<=200):LN X H0 M ms segs Wf Wz rc rp rk ra sw sm rh ends x lo H
theorem g_dn(n0:0<=n){Wn:ae Op}(v:∀ o,Wo= [o]->o.i1<=o.i2/\o.j1<=o.j2)(e:cQ n Wn=cQ n Wo):∀ m,0<=m->m<=n+ -1->groups m (cQ n Wn)=groups m Wo/\cQ m (cQ n Wn)=cQ m Wo:=λm m0 mn=>rwL e ⟨aC6 m0 (Yc301 mn) v,by exact rwL (aDk m0 n0 v) (rwL (show min m n=m by exact Yc300 mn) rfl)⟩
theorem aGh{X:XX C}(Z:S0 H0 M rc rp rk ra cs kp ms segs)(Y:S1 H0 M rk rh sw sm ms segs kl rm Km Wf Wz xe ye)(x0: -1<x)(J:LN X H0 M ms segs Wf Wz rc rp rk ra sw sm rh (.tup [.int xe,.int ye]) x lo H)(go:GoK (LN X H0 M ms segs Wf Wz rc rp rk ra sw sm rh (.tup [.int xe,.int ye]) (x+ -1)) Q K):aN "n" (.int x) lo H λlo1 H1=>nBd X lo1 H1 K:=by
 cases J with
 | @mk o W F S w gw gs lw ls=>
 have n0:0<=x:=Yc299 x0
 have lc:=Z.lc
 have l5:=Z.l5
 have lm:(cs.map Ch.v).length=cs.length:=ar ..
 have G:=F.cons "n" (.int x)
 refine(?_:nBd X (upd lo "n" (.int x)) H K)
 revert G
 generalize upd lo "n" (.int x)=lo1
 intro G
 refine aO (sNew_i (aS ?_))
 have G:=G.cons "due" (.ref H.length)
 have Sx:=S.hx (Hx.app H [MO.list []])
 have hl:=aV H (MO.list [])
 have nw:=S.nw (aM H)
 revert G Sx hl nw
 generalize upd lo1 "due" (.ref H.length)=lo2
 generalize H++[MO.list []]=H1
 generalize H.length=rd
 intro G Sx hl nw
 refine aO (n6 (vM (G _ (.ref rc) ⋯) (aR (Sx.ni _ _ Z.hc nofun)) (rwL lm (Yc298 lc l5)) ⟨_,lE (LKk X H0 M W x rd rc rp rk ra sw sm rh (.tup [.int xe,.int ye]) ms segs (sQ x 0 0 0 [] segs)) (e:=cs.length) (λJ=>?_) (λxe J go=>k_step Z xe J go) _ 0 (rwL lm aE9) (.mk (k:=0) (ds:=[]) (u:=0) (v:=0) rfl (G.re _ ⋯) Sx ⟨hl,λp hp=>bw hp dt,jg _ _,λy hy=>rwL (cq.mp hy) nw⟩ w (λs q q=>rfl) (λi s hi=>bw hi (Nat.not_lt_zero _)) rfl rfl (λh=>bw h (Nat.lt_irrefl 0)) (λq=>rfl) (jo _) λp hp=>bw hp dt)⟩))
 cases J with
 | @mk k o2 W2 ds u v ex F2 S2 D2 w2 wo2 oo2 pe de k1 k0 b1 b2=>
 have ek:k=segs.length:=Yc297 lc ex
 have kp0:0<k:=rwL ek (List.length_pos_iff.mpr Y.sn)
 rw[ek,List.drop_length]at de
 have de:ds.map Prod.snd=sQ x 0 0 0 [] segs:=de
 have ew:=wo2 sw Y.wM Y.wn
 have es:=wo2 sm Y.sM Y.sn'
 refine aS (aO (end_i F2 S2 D2 (k1 kp0) Y.hk Y.hm Y.lk (by omega) (λp hp=>by have:=b2 p hp;omega) λ{H3 ds'} S3 D3 e3 l3=>aS ?_))
 have gx:=gw x n0 (dj _)
 have gf:=Y.gf x n0
 rw[de,<-gf.1,<-gx.1]at e3
 have M3:=S3.mst Y.wM
 refine xE M3.o λff hi=>?_
 refine aO (eV (bS (aJ (nWh_i X (F2 _ (.ref sw) ⋯) (F2 _ (.int x) ⋯) ⟨_,hi⟩ (bD (t8 X M3 (rwL ew lw) ?_ λ{H4 c4 ai ps} G4 e4 ha=>aS ?_))))))
 ·rw[ew,<-e3,ar];omega
 have U4:=S3.cg Y.wM G4
 have K4:=DS.keep S3 Y.wM D3 G4
 have G:=F2.cons "told" (.ref ai)
 rw[ew]at U4 e4
 revert G
 generalize upd _ "told" (.ref ai)=lo4
 intro G
 refine aO (nCm_i (l:=chF Wf) (G _ (.ref ai) ⋯) (G _ (.ref rd) ⋯) (G _ (.ref rh) ⋯) G4.h (λp hp=>(G4.hd p hp).1) K4.1 K4.2 (U4.1.ni _ _ Y.hh nofun) (e4.trans e3.symm) (rwL e4 (rwL gx.1 gf.2)) ?_ λ{H5} x5=>aS ?_)
 ·have:=List.length_filter_le (λo:Op=> !o.tag.isEq) Wf
  have lf:=Y.lf
  show(Wf.filter _).length<100000
  exact Yc296 this lf
 have S5:=U4.1.hx x5
 have gz:=gs x n0 (dj _)
 have e6:upn W2 sw (cQ x (W sw)) sm=W sm:=by exact rwL (dN _ _ Y.ws.symm) (rwL es rfl)
 refine aO (nSa_i (n:=x) (G _ (.ref sm) ⋯) (G _ (.int x) ⋯) S5 Y.sM (rwL e6 ls) (rwL e6 (rwL gz.1 (Y.gz x n0))) λ{H6 c6} S6=>aS ?_)
 rw[e6]at S6
 refine go.nx (.mk (G.re _ ⋯) S6 (λi s sg h1 h2=>?_) ?_ ?_ ?_ ?_)
 ·have hs:=dm h1
  exact rwL (dN _ _ (λz:s=sm=>Y.sn' (z▸hs))) (rwL (dN _ _ (λz:s=sw=>Y.wn (z▸hs))) (w2 i s sg h1 h2))
 ·rw[dN _ _ Y.ws,fR]
  exact g_dn n0 Y.vf gx.2
 ·rw[fR]
  exact g_dn n0 Y.vz gz.2
 ·rw[dN _ _ Y.ws,fR,o0];exact lw
 ·rw[fR,o0];exact ls
theorem law_11(Z:S0 H0 M rc rp rk ra cs kp ms segs)(Y:S1 H0 M rk rh sw sm ms segs kl rm Km Wf Wz xe ye)(F:Fs (nF rc rp rk ra sw sm rh (.tup [.int xe,.int ye])) lo)(S:Stt X H0 H o W M)(w:∀ (i:Nat) s sg,ms[i]? =aa s->segs[i]? =aa sg->W s=sg.L)(ew:W sw=Wf)(es:W sm=Wz)(k:∀ {lo' H'},K .next lo' H'):pF X lo H K:=by
 rw[zO]
 refine n6 (bS (aJ (bK (aJ (i9 (aJ (i9 (bD (rng3_i (Lf.mk (p:=((8:Int),-1,-1)) rfl ⟨by decide,?_⟩))))))))))
 show ∃ n,cU (hF C) (aN "n") (nBd X) n ((8:Int),9,-1) lo H K
 exact⟨_,aDi (LN X H0 M ms segs Wf Wz rc rp rk ra sw sm rh (.tup [.int xe,.int ye])) (e:=-1) (λq=>k) (λx0 J go=>aGh Z Y x0 J go) 9 8 (by decide) (.mk F S w (λm q q=>rwL ew ⟨rfl,rfl⟩) (λm q q=>rwL es ⟨rfl,rfl⟩) (rwL ew Y.lf) (rwL es Y.lz))⟩
theorem cod_v(h:Cod a b f i j [o]):o.i1<=o.i2/\o.j1<=o.j2:=by
 cases h with
 | @eq _ _ _ k _ hf p m h=>exact⟨show i<=i+k by exact Yc322 p,show j<=j+k by exact Yc322 p⟩
 |ch hf hg hi hj lt h=>exact⟨hi,hj⟩
theorem ops_v(la:a.length<1000)(lb:b.length<1000)(h:∀ l,Ops a b l->l=W):∀ o,W= [o]->o.i1<=o.i2/\o.j1<=o.j2:=λo e=>by
 refine xE (Ops.ex la lb) λl O=>?_
 have:=h l O
 subst this
 subst e
 exact cod_v O.cod
theorem ops_l(la:a.length<1000)(lb:b.length<1000)(h:∀ l,Ops a b l->l=W)(rl:∀ r,Run a b [⟨0,a.length,0,b.length⟩] [] r->r.length<64):W.length<=200:=by
 refine xE (Ops.ex la lb) λl O=>?_
 exact rwR (h l O) (O.len_r rl)
theorem w_ex:∀ (ms:ae Nat) (segs:ae Sgm),ms.Nodup->∃ W:Nat->ae Op,∀ (i:Nat) s sg,ms[i]? =aa s->segs[i]? =aa sg->W s=sg.L:=λms=>by
 induction ms with
 |nil=>exact λq q=>⟨λq=>[],λi s sg h=>nomatch h⟩
 |cons t ms ih=>
  intro segs nd
  cases segs with
  |nil=>exact⟨λq=>[],λi s sg q h=>nomatch h⟩
  |cons g segs=>
   obtain⟨n1,n2⟩:=wc.mp nd
   obtain⟨W,h⟩:=ih segs n2
   refine⟨upn W t g.L,λi s sg h1 h2=>?_⟩
   cases i with
   |zero=>exact cxS h1 (cxS h2 (fR _ _ _))
   |succ i=>
    exact rwL (dN _ _ λz:s=t=>n1 (z▸dm h1)) (h i s sg h1 h2)
theorem aF4(la:A.length<90):(∀ r,Run A A [⟨0,A.length,0,A.length⟩] [] r->r.length<64)/\∀ l,Ops A A l->l=eKt 0 0 A.length:=by
 have G:=GE.self A
 have c:=aEn (K:=A)
 have n:=G.cnt
 exact⟨λr hr=>rwL (G.few hr) (Yc321 la n),λl O=>(G.is O).trans c⟩
theorem ch_rl(la:A.length<90)(lb:B.length<90):∀ r,Run A B [⟨0,A.length,0,B.length⟩] [] r->r.length<64:=λr hr=>by
 refine xE (Ops.ex (a:=A) (b:=B) (Yc320 la) (Yc320 lb)) λl O=>?_
 refine xEA O.gE λps G q=>?_
 have n:=G.cnt
 exact rwL (G.few hr) (Yc319 la lb n)
theorem vS{rd:Nat}(S:SM H s ra rb rd rj n (fsF ra rb rd rj rp) f a b)(al:a.length<200)(rl:∀ r,Run a b [⟨0,a.length,0,b.length⟩] [] r->r.length<64)(hW:∀ l,Ops a b l->l=W):Mst X H s W none:=.fresh S ⋯ ⋯ al rl hW
theorem law_ok(hl:sc.length<=63)(h:LI H rs sc)(k:∀ {H'},Q (.bool ak) H'):c_law X [.ref rs] H Q:=by
 refine⟨rfl,?_⟩
 have F:Fs [("script",.ref rs)] (loB ["script"] [.ref rs] lo0):=Fs.cons (l:=[]) nofun "script" (.ref rs)
 refine(?_:yF X (loB ["script"] [.ref rs] lo0) H (mW Q))
 revert F
 generalize loB ["script"] [.ref rs] lo0=lo
 intro F
 unfold yF
 refine aO (law_0 X (F _ _ ⋯) h hl λ{H1 rc rb cs bs} x1 D=>aS (aO ?_))
 have F:=(F.cons "chapters" (.ref rc)).cons "between" (.ref rb)
 revert F
 generalize upd (upd lo "chapters" (.ref rc)) "between" (.ref rb)=lo1
 intro F
 refine law_1 X (F _ (.ref rs) ⋯) (x1.li h) λt=>aS (aO ?_)
 have F:=F.cons "total" (.int t)
 revert F
 generalize upd lo1 "total" (.int t)=lo2
 intro F
 refine law_2 X (F _ (.ref rb) ⋯) (F _ (.int t) ⋯) D λ{H2 rk kp c0 c1} x2 hk hq P=>aS (aO ?_)
 have F:=F.cons "kept" (.ref rk)
 revert F
 generalize upd lo2 "kept" (.ref rk)=lo3
 intro F
 have D2:=D.hx x2
 have Cp:Cps cs bs:=⟨D.n,D.n5,D.c,D.s,D.sz,D.sd⟩
 have kl:=vX P Cp
 have Da:Dat H2 rc rk cs kp:=⟨D2.h,D2.hc,hk,hq,kl,D.n5⟩
 have Wl:=aAg P Cp
 have al:=Wl.al
 have bl:=Wl.bl
 rw[af]at al bl
 refine law_3 X (aS (aO ?_))
 have F:=((F.cons "places" (.ref (H2++[MO.list []]++[MO.list []]).length)).cons "second" (.ref (H2++[MO.list []]).length)).cons "first" (.ref H2.length)
 have x3:Hx H2 (H2++[MO.list []]++[MO.list []]++[MO.list []]):=((Hx.app _ _).trans (.app _ _)).trans (.app _ _)
 have q1:(H2++[MO.list []]++[MO.list []]++[MO.list []])[H2.length]? =aa (MO.list []):=((Hx.app _ [MO.list []]).trans (.app _ [MO.list []])) _ _ (aV H2 (MO.list []))
 have q2:(H2++[MO.list []]++[MO.list []]++[MO.list []])[(H2++[MO.list []]).length]? =aa (MO.list []):=(Hx.app _ [MO.list []]) _ _ (aV (H2++[MO.list []]) (MO.list []))
 have q3:=aV (H2++[MO.list []]++[MO.list []]) (MO.list [])
 have f3:H2[(H2++[MO.list []]++[MO.list []]).length]? =none:=((Hx.app H2 [MO.list []]).trans (.app _ [MO.list []])).fresh
 revert F x3 q1 q2 q3 f3
 generalize upd (upd (upd lo3 "places" (.ref (H2++[MO.list []]++[MO.list []]).length)) "second" (.ref (H2++[MO.list []]).length)) "first" (.ref H2.length)=lo4
 generalize (H2++[MO.list []]++[MO.list []]).length=rp
 generalize (H2++[MO.list []]).length=r2
 generalize H2.length=r1
 generalize H2++[MO.list []]++[MO.list []]++[MO.list []]=H3
 intro F x3 q1 q2 q3 f3
 refine law_4 X Da f3 x3 (mQ al) (mQ bl) (F.re _ ⋯) q1 q2 q3 λ{lo5 H4 r1 r2} F x4 h1 h2 h3=>aS (aO ?_)
 clear q1 q2 q3 f3 x3
 refine law_5 X (F _ (.ref r1) ⋯) (F _ (.ref r2) ⋯) h1 h2 (mQ al) (mQ bl) (aS (aO ?_))
 have F:=F.cons "ends" (.tup [.int (fsL (sgs kp cs)).length,.int (snL (sgs kp cs)).length])
 revert F
 generalize upd lo5 "ends" (.tup [.int (fsL (sgs kp cs)).length,.int (snL (sgs kp cs)).length])=lo6
 intro F
 refine xEE (aGq P) λkpl rm ekp=>xEE P.e λr0 rz ekp0=>?_
 have l3:= @kU 3000 c1
 have l2:= @kU 2000 c0
 have b0:=P.b0
 have b1:=P.b1
 have hk4:=x4 _ _ hk
 have hm4:H4[rm]? =aa (.list ((bX 3000 c1).map V.int)):=x4 _ _ (hq (rm,bX 3000 c1) (rwL ekp (bg _ be)))
 have h04:H4[r0]? =aa (.list ((bX 2000 c0).map V.int)):=x4 _ _ (hq (r0,bX 2000 c0) (rwL ekp0 be))
 have ek1:kp.map rv=kpl.map rv++[.ref rm]:=by refine rwL ekp (rwL au ?_);rfl
 have ek0:kp.map rv= .ref r0::(bs++[(rz,bX 3000 c1)]).map rv:=by refine rwL ekp0 ?_;rfl
 have hkl:=hk4
 rw[ek1]at hkl
 refine eV (show smE X lo6 H4 _ from smE_i X (F _ (.ref r1) ⋯) (F _ (.ref r2) ⋯) (F _ (.ref rk) ⋯) h1 h2 hkl hm4 (mQ al) (mQ bl) (aE4 l3 b1) λ{H5 sw wa wb wd wj wp wn wf} x5 Sw fw=>aS (aO ?_))
 have F:=F.cons "whole" (.ref sw)
 revert F
 generalize upd lo6 "whole" (.ref sw)=lo7
 intro F
 refine eV (show smE X lo7 H5 _ from smE_i X (F _ (.ref r1) ⋯) (F _ (.ref r2) ⋯) (F _ (.ref rk) ⋯) (x5 _ _ h1) (x5 _ _ h2) (x5 _ _ hkl) (x5 _ _ hm4) (mQ al) (mQ bl) (aE4 l3 b1) λ{H6 so oa ob od oj op on of} x6 So fo=>aS (aO ?_))
 have F:=F.cons "other" (.ref so)
 revert F
 generalize upd lo7 "other" (.ref so)=lo8
 intro F
 have alw:=Wl.al
 refine law_8 X (F _ (.ref so) ⋯) So ⋯ ⋯ alw Wl.rl Wl.o λ{H7 rh} e7 h7 f7=>aS (aO ?_)
 have F:=F.cons "changes" (.ref rh)
 revert F
 generalize upd lo8 "changes" (.ref rh)=lo9
 intro F
 have x7:Hx H5 H7:=λj m e=>e7 j m (λq=>aF (fo.symm.trans (q▸e))) (x6 _ _ e)
 have x47:Hx H4 H7:=x5.trans x7
 have hk0:=x47 _ _ hk4
 rw[ek0]at hk0
 refine law_9 X (F _ (.ref rk) ⋯) hk0 (x47 _ _ h04) (aE4 l2 b0) λ{H8 sm sa sb sd sj sp sn sf} x8 Ss f8=>aS (aO ?_)
 have F:=F.cons "same" (.ref sm)
 revert F
 generalize upd lo9 "same" (.ref sm)=lo10
 intro F
 have Da8:=Da.hx (x4.trans (x47.trans x8))
 have lcs:∀ c∈cs,c.A.length<90/\c.B.length<90:=λc hc=>by
  refine xE (iu hc) λj hj=>?_
  have la:c.A.length<=szc cs:=q7 (λc=>c.A.length) cs hj
  have lb:c.B.length<=szd cs:=q7 (λc=>c.B.length) cs hj
  have sz:=Cp.sz
  have sd:=Cp.sd
  have n5:=Cp.n5
  exact Yc316 la lb sz sd n5
 refine law_10 X (F _ (.ref rc) ⋯) Da8.h Da8.hc Cp.n5 (λc hc=>by have:=lcs c hc;exact Yc315 this) λ{H9 ra ms} x9 ha lms ndm pm fm fa=>aS (aO ?_)
 have F:=F.cons "alone" (.ref ra)
 revert F
 generalize upd lo10 "alone" (.ref ra)=lo11
 intro F
 have sl:=m8 (vX P Cp)
 have n5:=Cp.n5
 have x79:Hx H7 H9:=x8.trans x9
 have x49:Hx H4 H9:=x47.trans x79
 have Sw9:=Sw.hx (x7.trans x79)
 have Ss9:=Ss.hx x9
 refine xE (w_ex ms (sgs kp cs) ndm) λWc hWc=>?_
 have A0:=aF4 (A:=bX 2000 c0) (Yc314 l2 b0)
 have nws:sw≠sm:=λq=>aF (f8.symm.trans (q▸((x7 _ _ Sw.o))))
 have nwm:sw∉ms:=λq=>aF ((fm sw q).symm.trans ((x7.trans x8) _ _ Sw.o))
 have nsm:sm∉ms:=λq=>aF ((fm sm q).symm.trans Ss.o)
 have seg:∀ (i:Nat) s,ms[i]? =aa s->∃ sg c,(sgs kp cs)[i]? =aa sg/\cs[i]? =aa c/\sg.A=c.A/\sg.B=c.B:=λi s hi=>by
  have il:=(List.getElem?_eq_some_iff.mp hi).1
  have e1:=df (show i<(sgs kp cs).length by exact Yc203 lms sl il)
  obtain⟨q,c,e2,e3,e4⟩:=q9 e1
  exact⟨_,c,e1,e3,by exact rwL e4 rfl,by exact rwL e4 rfl⟩
 have Z:S0 H9 (sw::sm::ms) rc rp rk ra cs kp ms (sgs kp cs):=by
  refine⟨x9 _ _ Da8.h,x49 _ _ h3,x49 _ _ hk4,Da.hq.hx (x4.trans x49),ha,sl.symm,Yc313 lms sl,Yc312 kl sl,Yc311 sl n5,λk s q e1 e2=>?_,λs hs=>?_,λk s e=>(lO P Cp e).2.1,λs hs=>bq _ (bq _ hs),ndm⟩
  ·obtain⟨q',c,z1,z2,z3⟩:=q9 e1
   rw[e2]at z1
   exact cyS z1 λzq=>rwL zq (rwL z3 rfl)
  ·refine xE (iu hs) λj hj=>?_
   have O:=lO P Cp hj
   obtain⟨q',c,z1,z2,z3⟩:=q9 hj
   have lc:=lcs c (dm z2)
   have eA:s.A=c.A:=by exact rwL z3 rfl
   have eB:s.B=c.B:=by exact rwL z3 rfl
   exact⟨O.1.ce,O.1.o.len_r (rwL eA (rwL eB (ch_rl lc.1 lc.2))),Yc310 O.2⟩
 have ne:sgs kp cs≠ []:=λz=>by
  have:=D.n
  rw[z]at sl
  have sl:0=cs.length:=sl
  exact Yc309 this sl
 have Y:S1 H9 (sw::sm::ms) rk rh sw sm ms (sgs kp cs) (kpl.map rv) rm (bX 3000 c1) (cdW 0 0 (sgs kp cs)++eKt (fsL (sgs kp cs)).length (snL (sgs kp cs)).length (bX 3000 c1).length) (eKt 0 0 (bX 2000 c0).length) (fsL (sgs kp cs)).length (snL (sgs kp cs)).length:=by
  have blw:=Wl.bl
  refine⟨x49 _ _ hkl,x49 _ _ hm4,u9 l3 b1,x79 _ _ h7,ops_l (yR alw) (yR blw) Wl.o Wl.rl,ops_l (u9 l2 b0) (u9 l2 b0) A0.2 A0.1,ops_v (yR alw) (yR blw) Wl.o,ops_v (u9 l2 b0) (u9 l2 b0) A0.2,λn n0=>uG n0 _,λn n0=>?_,ne,be,bq _ be,nwm,nsm,nws,λs hs=>(Z.ok s hs).1⟩
  have ce:∀ s∈sgs kp cs,Ce s.L:=λs hs=>(Z.ok s hs).1
  have kp':=Z.p
  revert ce kp'
  generalize (fsL (sgs kp cs)).length=xe
  generalize (snL (sgs kp cs)).length=ye
  revert ne
  generalize sgs kp cs=segs
  intro ne ce kp'
  rcases List.exists_cons_of_ne_nil ne with ⟨s,l,rfl⟩
  have pl:∀ t∈l,0<t.K.length:=λt ht=>by
   obtain⟨j,hj⟩:=iu ht
   exact kp' (j+1) t hj (zp j)
  exact⟨(uH n0 ce pl xe ye _).1,wJ n0 ce pl xe ye _⟩
 have S:Stt X H9 H9 (λa=>none) (upn (upn Wc sw (cdW 0 0 (sgs kp cs)++eKt (fsL (sgs kp cs)).length (snL (sgs kp cs)).length (bX 3000 c1).length)) sm (eKt 0 0 (bX 2000 c0).length)) (sw::sm::ms):=by
  refine⟨λr m e a=>e,λr m e=>⟨m,e⟩,λs hs=>.inl ⟨rfl,rfl,?_⟩,λs a s' a a c e=>(nomatch e),λs hs=>?_⟩
  ·rcases cy.mp hs with rfl |hs
   ·rw[dN _ _ nws,fR]
    exact vS X Sw9 alw Wl.rl Wl.o
   rcases cy.mp hs with rfl |hs
   ·rw[fR]
    exact vS X Ss9 (Yc306 l2 b0) A0.1 A0.2
   ·refine rwL (dN _ _ (λz:s=sm=>nsm (z▸hs))) (rwL (dN _ _ (λz:s=sw=>nwm (z▸hs))) (xE (iu hs) λi hi=>?_))
    refine xEEAAA (seg i s hi) λsg c e1 e2 e3 e4=>?_
    have lc:=lcs c (dm e2)
    obtain⟨ca,cb,cd,cj,cp,cn,cf,Sm,_⟩:=(pm i s c hi e2).ex
    have O:=(lO P Cp e1).1.o
    rw[e3,e4]at O
    exact rwL (hWc i s sg hi e1) (vS X Sm (Yc305 lc) (ch_rl lc.1 lc.2) λl O'=>O'.uniq O)
  ·rcases cy.mp hs with rfl |hs
   ·exact⟨_,Sw9.o⟩
   rcases cy.mp hs with rfl |hs
   ·exact⟨_,Ss9.o⟩
   ·refine xE (iu hs) λi hi=>?_
    refine xEEAAA (seg i s hi) λsg c e1 e2 e3 e4=>?_
    obtain⟨ca,cb,cd,cj,cp,cn,cf,Sm,_⟩:=(pm i s c hi e2).ex
    exact⟨_,Sm.o⟩
 refine law_11 X Z Y (F.re _ ⋯) S (λi s sg h1 h2=>?_) (by rw[dN _ _ nws,fR]) (fR _ _ _) (aS (aO (rC (bK k))))
 have hs:=dm h1
 exact rwL (dN _ _ (λz:s=sm=>nsm (z▸hs))) (rwL (dN _ _ (λz:s=sw=>nwm (z▸hs))) (hWc i s sg h1 h2))
theorem y8(w:ko):((KL w.params).lookup yp).isSome=ak:=by rfl'
theorem aCg(w:ko){s:aw}(hk:∀ b o,(H1 w).get? b=aa o->s.heap.get? b=aa o):s.heap.NoLimit:=⟨_,xF (hk _ _ (wS w _ _ (Option.eq_some_of_isSome (y8 w)))) ⋯,by rfl'⟩
theorem tA:∀ (ns:ae Int) (ts:ae Tok),ts.length=ns.length->VRs ρ h ((ns.zip ts).map λx=>Value.int x.1 x.2) (ns.map V.int)
 | [],ts,_=>by cases ts<;>exact VRs.nil
 |n::ns,[],h=>nomatch h
 |n::ns,t::ts,h=>VRs.cons (VR.int _ _) (tA ns ts (Nat.succ.inj h))
theorem walk(w:ko)(s₁:aw)(a:dv)(ns:ae Int)(ts:ae Tok)(hk:∀ b o,(H1 w).get? b=aa o->s₁.heap.get? b=aa o)(hg:s₁.gens= #[])(ht:ts.length=ns.length)(hn:ns.length<=63)(hl:s₁.heap.IsList a ((ns.zip ts).map λx=>Value.int x.1 x.2).toArray)(h0:(H1 w).get? a=none):ax (iz pw w) yq (call (.ref 268) [.ref a]) (λv s'=>v= .bool ak/\(∀ b o,s₁.heap.get? b=aa o->s'.heap.get? b=aa o)/\s'.os=s₁.os/\tf s'.gens) (λc c=>fh) s₁:=by
 have X:XX (mkCx pw w s₁ (aCg w hk) (gsh w.params)):=⟨w,hk,λc c c c=>rfl⟩
 have S:Sim (mkCx pw w s₁ (aCg w hk) (gsh w.params)) [.ro (ns.map V.int)] [⟨a,a,none⟩] s₁:=by
  refine⟨rfl,λc c e=>e,λi m l hm hl'=>?_,λi l hl'=>?_,λi j li lj hi hj ne=>?_,λi j li lj k hi hj ne=>?_,rfl,.of_eq hg⟩
  ·cases i with
   |zero=>exact cxS hm (cxS hl' ⟨rfl,rfl,_,hl,tA ns ts ht⟩)
   |succ i=>exact aF hm
  ·cases i with
   |zero=>exact .inl ⟨_,rfl⟩
   |succ i=>exact aF hl'
  ·cases i with
   |zero=>cases j with
    |zero=>exact bw rfl ne
    |succ j=>exact aF hj
   |succ i=>exact aF hi
  ·cases i with
   |zero=>cases j with
    |zero=>exact bw rfl ne
    |succ j=>exact aF hj
   |succ i=>exact aF hi
 refine wmN ((cv_law X).call (A:=yq) (vs:=[.ref 0]) (Q:=λv c=>v= .bool ak) ⟨rfl,by decide+kernel,by decide+kernel⟩ S (.cons (VR.ref (l:=⟨a,a,none⟩) rfl) .nil) (law_ok X (sc:=ns) hn rfl λ{c}=>rfl)) λx s' p=>?_
 cases p with
 |mk S' N r q=>
  subst q
  cases r
  exact⟨rfl,S'.keep,S'.os,S'.bare⟩
theorem holds03:PySem.Challenge.rw_dm0053_03.Holds:=head walk
end Mine.Internal
theorem PySem.Challenge.cw_dm0053_03_holds : PySem.Challenge.rw_dm0053_03.Holds :=
 Mine.Internal.holds03
