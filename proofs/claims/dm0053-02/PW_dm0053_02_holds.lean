import PyProof.Rows.All
import KE.KDictLaws
import KE.KFromBytes
import Wide.FinOn
import OpenK.AllK
import Wide.All
import Lean
import PySem.Challenge.RW_dm0053_02
set_option Elab.async false
set_option genInjectivity false
set_option genSizeOf false
set_option genCtorIdx false
set_option maxRecDepth 100000
set_option linter.all false
open PySem PySem.W PyProof.Rows PySem.Calls
namespace Mine
local macro_rules
| `(tactic| rfl') => `(tactic| kernel_rfl)
local macro_rules
| `(⋯) => `(by kernel_rfl)
local macro_rules
| `(def $n:declId $s:optDeclSig $v:declVal) => `(noncomputable def $n:declId $s:optDeclSig $v:declVal)
open List (mem_append mem_singleton not_mem_nil getD_eq_getElem?_getD getElem?_map mem_map prefix_refl append_assoc drop_left mem_of_getElem? getElem?_eq_getElem getElem?_append_right getElem?_of_mem length_append prefix_append getElem?_set_self getElem?_set_ne mapM_cons getElem?_eq_none_iff map_cons find?_cons size_toArray mem_cons mem_cons_of_mem mem_cons_self forIn_nil forIn_cons all_eq_true cons_append set_set pairwise_cons append_nil length_cons getElem?_eq_none length_map map_append length_singleton length_nil)
open Int (zero_add add_zero mul_add sub_nonneg_of_le ofNat_le max_eq_left le_of_eq natCast_nonneg le_trans le_of_lt not_lt add_assoc toNat_natCast lt_irrefl le_antisymm le_max_right lt_of_lt_of_le)
open Nat (ble lt_or_ge le_refl sub_self ne_of_lt lt_succ_self succ_le_succ le_succ succ_ne_self zero_le mul_div_le lt_mul_div_succ le_add_left le_succ_of_le le_of_ble_eq_true beq blt add_comm lt_of_le_of_lt lt_trans add_sub_cancel)
open Option (bind_eq_some_iff bind_eq_bind pure_def map_eq_some_iff map_some)
open Bool (and_eq_true_iff false_eq_true)
def zzB:=@wpAny_bind
def zzP:=@wpAny_pure
theorem zzN{a b:Int}(h:b≠0:=by decide):0<=a%b:=Int.emod_nonneg a h
theorem zzL{a b:Int}(h:0<b:=by decide):a%b<b:=Int.emod_lt_of_pos a h
section
namespace Z
inductive T |v (i:Nat) |k (n:Nat) |o (c:Nat) (x y:T)
noncomputable abbrev Ln:=Int×List Int×List Int
noncomputable abbrev Al:=List (List Ln×Ln)
def dot(a:List Int):List Int->Int:=a.rec (λ_=>0) λc _ r x=>match x with | []=>0 |x::xs=>c*x+r xs
def ladd(a:List Int):List Int->List Int:=a.rec (λb=>b) λc cs r b=>match b with | []=>c::cs |x::xs=>(c+x)::r xs
theorem i4(a b c d:Int):a+b+(c+d)=a+c+(b+d):=by omega
theorem vN(a:List Int):∀ b x,dot (ladd a b) x=dot a x+dot b x:=by
 induction a with
 |nil=>exact λb x=>(zero_add _).symm
 |cons a as ih=>
  intro b x
  cases b with
  |nil=>exact(add_zero _).symm
  |cons b bs=>
   cases x with
   |nil=>rfl
   |cons x xs=>
    show(a+b)*x+dot (ladd as bs) xs=(a*x+dot as xs)+(b*x+dot bs xs)
    rw[ih,Int.add_mul,i4]
theorem vM(k:Int)(a:List Int):∀ x,dot (a.map (k* ·)) x=k*dot a x:=by
 induction a with
 |nil=>exact λx=>(Int.mul_zero _).symm
 |cons a as ih=>
  intro x
  cases x with
  |nil=>exact(Int.mul_zero _).symm
  |cons x xs=>
   show k*a*x+dot (as.map (k* ·)) xs=k*(a*x+dot as xs)
   rw[ih,mul_add,Int.mul_assoc]
def un(i:Nat):List Int:=i.rec [1] λ_ r=>0::r
theorem aBv(i:Nat):∀ x:List Int,dot (un i) x=x.getD i 0:=by
 induction i with
 |zero=>intro x;cases x with
  |nil=>rfl
  |cons x xs=>exact(add_zero _).trans (Int.one_mul _)
 |succ i ih=>intro x;cases x with
  |nil=>rfl
  |cons x xs=>exact(congrArg (·+_) (Int.zero_mul x)).trans ((zero_add _).trans (ih xs))
def la(a b:Ln):Ln:=(a.1+b.1,ladd a.2.1 b.2.1,ladd a.2.2 b.2.2)
def lm(k:Int)(a:Ln):Ln:=(k*a.1,a.2.1.map (k* ·),a.2.2.map (k* ·))
def ls(a b:Ln):Ln:=la a (lm (-1) b)
def lk(k:Int):Ln:=(k,[],[])
section
variable (xs:List Int)(ns:List Nat)
def ev(l:Ln):Int:=l.1+(dot l.2.1 xs+dot l.2.2 (ns.map Nat.cast))
theorem aBk(a b:Ln):ev xs ns (la a b)=ev xs ns a+ev xs ns b:=by
 show a.1+b.1+(dot (ladd _ _) _+dot (ladd _ _) _)=a.1+(_+_)+(b.1+(_+_))
 rw[vN,vN,i4 (dot a.2.1 xs)];exact i4 ..
theorem aBj(k:Int)(a:Ln):ev xs ns (lm k a)=k*ev xs ns a:=by
 show k*a.1+(dot (List.map _ _) _+dot (List.map _ _) _)=k*(a.1+(_+_))
 rw[vM,vM,mul_add,mul_add]
theorem n6(a b:Ln):ev xs ns (ls a b)=ev xs ns a-ev xs ns b:=by rw[ls,aBk,aBj,Int.neg_mul,Int.one_mul,Int.sub_eq_add_neg]
theorem mI(k:Int):ev xs ns (lk k)=k:=add_zero k
def Sg(g:List Ln):Prop:=∀ q∈g,0<=ev xs ns q
def Sa(a:Al)(z:Int):Prop:=∃ p∈a,Sg xs ns p.1/\ev xs ns p.2=z
def Sd(d:List (List Ln)):Prop:=∃ g∈d,Sg xs ns g
def pr{β:Type}(f:List Ln->Ln->Ln->List β)(a b:Al):List β:=a.flatMap λp=>b.flatMap λq=>f (p.1++q.1) p.2 q.2
variable {xs ns}
theorem Sg.app{a b:List Ln}(h:Sg xs ns a)(g:Sg xs ns b):Sg xs ns (a++b):=λq m=>(mem_append.mp m).elim (h q) (g q)
theorem Sg.sn{a:List Ln}{l:Ln}(h:Sg xs ns a)(g:0<=ev xs ns l):Sg xs ns (a++[l]):=h.app λ_ m=>mem_singleton.mp m▸g
theorem Sg.nil:Sg xs ns []:=λ_ h=>absurd h not_mem_nil
theorem oQ{β:Type}{f:List Ln->Ln->Ln->List β}{a b:Al}{x y:Int}{P:β->Prop}(h:Sa xs ns a x)(g:Sa xs ns b y)(k:∀ u v w,Sg xs ns u->ev xs ns v=x->ev xs ns w=y->∃ z∈f u v w,P z):∃ z∈pr f a b,P z:=h.elim λp h=>g.elim λq g=>(k _ _ _ (h.2.1.app g.2.1) h.2.2 g.2.2).elim λz m=>⟨z,List.mem_flatMap.mpr ⟨p,h.1,List.mem_flatMap.mpr ⟨q,g.1,m.1⟩⟩,m.2⟩
theorem Sa.one{l:Ln}{z:Int}(h:ev xs ns l=z):Sa xs ns [([],l)] z:=⟨_,List.mem_singleton_self _,.nil,h⟩
end
def op(c:Nat)(x y:Nat×Int):Nat×Int:=List.getD [(x.1+y.1,x.2+y.2),(x.1-y.1,x.2-y.2),(max x.1 y.1,max x.2 y.2),(min x.1 y.1,min x.2 y.2),(x.2.toNat,(x.1:Int)),(0,-x.2)] c ((c-32)*x.1,((c-32:Nat):Int)*x.2)
def aN(f:Ln->Ln->Ln):Al->Al->Al:=pr λg p q=>[(g,f p q)]
def aC(f:Ln->Ln->Ln×Ln):Al->Al->Al:=pr λg p q=>[(g++[ls p q],(f p q).1),(g++[ls q p],(f p q).2)]
def one:Al:=[([],lk 0)]
def al(c:Nat)(x y:Al×Al):Al×Al:=List.getD [(aN la x.1 y.1,aN la x.2 y.2),(aC (λp q=>(ls p q,lk 0)) x.1 y.1,aN ls x.2 y.2),(aC (λp q=>(p,q)) x.1 y.1,aC (λp q=>(p,q)) x.2 y.2),
 (aC (λp q=>(q,p)) x.1 y.1,aC (λp q=>(q,p)) x.2 y.2),(aC (λp q=>(p,lk 0)) x.2 one,x.1),(one,aN (λp _=>lm (-1) p) x.2 one)] c (aN (λp _=>lm (c-32:Nat) p) x.1 one,aN (λp _=>lm (c-32:Nat) p) x.2 one)
section
variable {xs:List Int}{ns:List Nat}{a b:Al}{x y z:Int}
def S2(xs:List Int)(ns:List Nat)(a:Al×Al)(x:Nat×Int):Prop:=Sa xs ns a.1 x.1/\Sa xs ns a.2 x.2
theorem Sa.zero:Sa xs ns Z.one 0:=.one (mI xs ns 0)
theorem Sa.aN{f:Ln->Ln->Ln}(k:∀ p q,ev xs ns p=x->ev xs ns q=y->ev xs ns (f p q)=z)(h:Sa xs ns a x)(g:Sa xs ns b y):Sa xs ns (aN f a b) z:=oQ h g λu v w s e e'=>⟨_,List.mem_singleton_self _,s,k v w e e'⟩
theorem Sa.aC{f:Ln->Ln->Ln×Ln}(k:∀ p q,ev xs ns p=x->ev xs ns q=y->(y<=x->ev xs ns (f p q).1=z)/\(x<=y->ev xs ns (f p q).2=z))(h:Sa xs ns a x)(g:Sa xs ns b y):Sa xs ns (aC f a b) z:=oQ h g λu v w s e e'=>(Int.le_total y x).elim
  (λl=>⟨_,.head _,s.sn (n6 xs ns v w▸sub_nonneg_of_le (e▸e'▸l)),(k v w e e').1 l⟩) λl=>⟨_,.tail _ (.head _),s.sn (n6 xs ns w v▸sub_nonneg_of_le (e▸e'▸l)),(k v w e e').2 l⟩
theorem al_ok(c:Nat){a b:Al×Al}{x y:Nat×Int}(h:S2 xs ns a x)(g:S2 xs ns b y):S2 xs ns (al c a b) (op c x y):=by
 have A:∀ {x y:Int} (p q:Ln),ev xs ns p=x->ev xs ns q=y->ev xs ns (la p q)=x+y:=λp q e e'=>by rw[aBk,e,e']
 have S:∀ {x y:Int} (p q:Ln),ev xs ns p=x->ev xs ns q=y->ev xs ns (ls p q)=x-y:=λp q e e'=>by rw[n6,e,e']
 have M:∀ (k:Int){x y:Int} (p q:Ln),ev xs ns p=x->ev xs ns q=y->ev xs ns (lm k p)=k*x:=λk _ _ p q e e'=>by rw[aBj,e]
 cases c with
 |zero=>exact⟨h.1.aN (z:=((x.1+y.1:Nat):Int)) A g.1,h.2.aN A g.2⟩
 |succ c=>cases c with
  |zero=>exact⟨Sa.aC (z:=((x.1-y.1:Nat):Int)) (f:=λp q=>(ls p q,lk 0)) (λp q e e'=>⟨λl=>(S p q e e').trans (Int.ofNat_sub (ofNat_le.mp l)).symm,λl=>(mI _ _ _).trans (congrArg Nat.cast (Nat.sub_eq_zero_of_le (ofNat_le.mp l)).symm)⟩) h.1 g.1,h.2.aN S g.2⟩
  |succ c=>cases c with
   |zero=>exact⟨h.1.aC (z:=((max x.1 y.1:Nat):Int)) (f:=λp q=>(p,q)) (λp q e e'=>⟨λl=>e.trans (congrArg Nat.cast (Nat.max_eq_left (ofNat_le.mp l)).symm),λl=>e'.trans (congrArg Nat.cast (Nat.max_eq_right (ofNat_le.mp l)).symm)⟩) g.1,
     h.2.aC (z:=max x.2 y.2) (f:=λp q=>(p,q)) (λp q e e'=>⟨λl=>e.trans (max_eq_left l).symm,λl=>e'.trans (Int.max_eq_right l).symm⟩) g.2⟩
   |succ c=>cases c with
    |zero=>exact⟨h.1.aC (z:=((min x.1 y.1:Nat):Int)) (f:=λp q=>(q,p)) (λp q e e'=>⟨λl=>e'.trans (congrArg Nat.cast (Nat.min_eq_right (ofNat_le.mp l)).symm),λl=>e.trans (congrArg Nat.cast (Nat.min_eq_left (ofNat_le.mp l)).symm)⟩) g.1,
      h.2.aC (z:=min x.2 y.2) (f:=λp q=>(q,p)) (λp q e e'=>⟨λl=>e'.trans (Int.min_eq_right l).symm,λl=>e.trans (Int.min_eq_left l).symm⟩) g.2⟩
    |succ c=>cases c with
     |zero=>exact⟨h.2.aC (z:=(x.2.toNat:Int)) (f:=λp q=>(p,lk 0)) (λp q e e'=>⟨λl=>e.trans (Int.toNat_of_nonneg l).symm,λl=>(mI _ _ _).trans (congrArg Nat.cast (Int.toNat_of_nonpos l).symm)⟩) .zero,h.1⟩
     |succ c=>cases c with
      |zero=>exact⟨.zero,h.2.aN (λp q e e'=>(M (-1) p q e e').trans (by rw[Int.neg_mul,Int.one_mul];rfl)) .zero⟩
      |succ c=>exact⟨h.1.aN (M _) .zero,h.2.aN (M _) .zero⟩
end
def den(xs:List Int)(ns:List Nat)(t:T):Nat×Int:=t.rec (λi=>(ns.getD i 0,xs.getD i 0)) (λn=>(n,(n:Int))) λc _ _ x y=>op c x y
def alt(t:T):Al×Al:=t.rec (λi=>([([],0,[],un i)],[([],0,un i,[])])) (λn=>([([],lk n)],[([],lk n)])) λc _ _ x y=>al c x y
theorem aCg(xs:List Int)(ns:List Nat)(t:T):S2 xs ns (alt t) (den xs ns t):=by
 induction t with
 |v i=>
  refine⟨.one ?_,.one ?_⟩
  ·refine(zero_add _).trans ((zero_add _).trans ((aBv i _).trans ?_))
   show List.getD (List.map Nat.cast ns) i (Nat.cast 0)=_
   rw[getD_eq_getElem?_getD,getElem?_map];show _=((List.getD ns i 0:Nat):Int);rw[getD_eq_getElem?_getD];cases ns[i]? <;>rfl
  ·exact(zero_add _).trans ((congrArg (_+ ·) rfl).trans ((add_zero _).trans (aBv i xs)))
 |k n=>exact⟨.one (mI ..),.one (mI ..)⟩
 |o c x y h g=>exact al_ok c h g
def rL(a b:Al)(l:Ln->Ln->List (List Ln)):List (List Ln):=pr (λg p q=>(l p q).map (g++ ·)) a b
def dP(xs:List Int)(ns:List Nat)(t:T):Prop:=t.rec (λ_=>False) (λ_=>False) λc x y p q=>
 List.getD [(den xs ns x).1<=(den xs ns y).1,(den xs ns x).1=(den xs ns y).1,(den xs ns x).2<=(den xs ns y).2,(den xs ns x).2=(den xs ns y).2,¬p,p/\q,p\/q] c (p->q)
def cr(p q:List (List Ln)):List (List Ln):=p.flatMap λg=>q.map (g++ ·)
def zY(p q:Ln):List (List Ln):=[[ls q p]]
def zZ(p q:Ln):List (List Ln):=[[ls (ls p q) (lk 1)]]
def aBo(p q:Ln):List (List Ln):=[[ls q p,ls p q]]
def aBp(p q:Ln):List (List Ln):=[[ls (ls p q) (lk 1)],[ls (ls q p) (lk 1)]]
def dn(t:T):List (List Ln)×List (List Ln):=t.rec (λ_=>([],[[]])) (λ_=>([],[[]])) λc x y p q=>
 List.getD [(rL (alt x).1 (alt y).1 zY,rL (alt x).1 (alt y).1 zZ),(rL (alt x).1 (alt y).1 aBo,rL (alt x).1 (alt y).1 aBp),(rL (alt x).2 (alt y).2 zY,rL (alt x).2 (alt y).2 zZ),
  (rL (alt x).2 (alt y).2 aBo,rL (alt x).2 (alt y).2 aBp),(p.2,p.1),(cr p.1 q.1,p.2++q.2),(p.1++q.1,cr p.2 q.2)] c (p.2++q.1,cr p.1 q.2)
section
variable {xs:List Int}{ns:List Nat}{a b:Al}{x y:Int}
theorem Sd.app{p q:List (List Ln)}(h:Sd xs ns p\/Sd xs ns q):Sd xs ns (p++q):=h.elim (fun⟨g,m,s⟩=>⟨g,List.mem_append_left _ m,s⟩) fun⟨g,m,s⟩=>⟨g,List.mem_append_right _ m,s⟩
theorem Sd.cr{p q:List (List Ln)}(h:Sd xs ns p)(k:Sd xs ns q):Sd xs ns (cr p q):=h.elim λg h=>k.elim λg' k=>⟨g++g',List.mem_flatMap.mpr ⟨g,h.1,mem_map.mpr ⟨g',k.1,rfl⟩⟩,h.2.app k.2⟩
theorem uF{l:Ln->Ln->List (List Ln)}(h:Sa xs ns a x)(g:Sa xs ns b y)(k:∀ p q,ev xs ns p=x->ev xs ns q=y->Sd xs ns (l p q)):Sd xs ns (rL a b l):=oQ h g λu v w s e e'=>(k v w e e').elim λg h=>⟨_,mem_map.mpr ⟨g,h.1,rfl⟩,s.app h.2⟩
theorem zO{p q:Ln}(e:ev xs ns p=x)(e':ev xs ns q=y)(h:y<x):Sg xs ns [ls (ls p q) (lk 1)]:=λ_ m=>by rw[mem_singleton.mp m,n6,n6,mI,e,e'];exact sub_nonneg_of_le (Int.le_sub_left_of_add_le h)
theorem zX{p q:Ln}(e:ev xs ns p=x)(e':ev xs ns q=y)(h:y<=x):0<=ev xs ns (ls p q):=by rw[n6,e,e'];exact sub_nonneg_of_le h
theorem zW(h:Sa xs ns a x)(g:Sa xs ns b y):(x<=y->Sd xs ns (rL a b zY))/\(¬x<=y->Sd xs ns (rL a b zZ)):=⟨λl=>uF h g λp q e e'=>⟨_,.head _,λ_ m=>mem_singleton.mp m▸zX e' e l⟩,λl=>uF h g λp q e e'=>⟨_,.head _,zO e e' (Int.not_le.mp l)⟩⟩
theorem aBn(h:Sa xs ns a x)(g:Sa xs ns b y):(x=y->Sd xs ns (rL a b aBo))/\(¬x=y->Sd xs ns (rL a b aBp)):=⟨λl=>uF h g λp q e e'=>⟨_,.head _,Sg.sn (a:=[_]) (λ_ m=>mem_singleton.mp m▸zX e' e (le_of_eq l)) (zX e e' (le_of_eq l.symm))⟩,
  λl=>uF h g λp q e e'=>(Int.lt_or_gt_of_ne l).elim (λl=>⟨_,.tail _ (.head _),zO e' e l⟩) λl=>⟨_,.head _,zO e e' l⟩⟩
theorem dn_ok(t:T):(dP xs ns t->Sd xs ns (dn t).1)/\(¬dP xs ns t->Sd xs ns (dn t).2):=by
 induction t with
 |v i=>exact⟨False.elim,λ_=>⟨_,.head _,.nil⟩⟩
 |k n=>exact⟨False.elim,λ_=>⟨_,.head _,.nil⟩⟩
 |o c x y h g=>
  have X:=aCg xs ns x
  have Y:=aCg xs ns y
  cases c with
  |zero=>exact⟨λl=>(zW X.1 Y.1).1 (ofNat_le.mpr l),λl=>(zW X.1 Y.1).2 λz=>l (ofNat_le.mp z)⟩
  |succ c=>cases c with
   |zero=>exact⟨λl=>(aBn X.1 Y.1).1 (congrArg Nat.cast l),λl=>(aBn X.1 Y.1).2 λz=>l (Int.ofNat.inj z)⟩
   |succ c=>cases c with
    |zero=>exact zW X.2 Y.2
    |succ c=>cases c with
     |zero=>exact aBn X.2 Y.2
     |succ c=>cases c with
      |zero=>exact⟨h.2,λl=>h.1 (Classical.not_not.mp l)⟩
      |succ c=>cases c with
       |zero=>exact⟨λl=>(h.1 l.1).cr (g.1 l.2),λl=>.app ((Classical.not_and_iff_not_or_not.mp l).imp h.2 g.2)⟩
       |succ c=>cases c with
        |zero=>exact⟨λl=>.app (l.imp h.1 g.1),λl=>(h.2 λz=>l (.inl z)).cr (g.2 λz=>l (.inr z))⟩
        |succ c=>exact⟨λl=>.app ((Classical.em _).elim (λz=>.inr (g.1 (l z))) λz=>.inl (h.2 z)),λl=>(h.1 (Classical.not_imp.mp l).1).cr (g.2 (Classical.not_imp.mp l).2)⟩
end
def sm(g:List Ln):Nat->Ln×Nat:=g.rec (λs=>(lk 0,s)) λl _ r s=>(la (lm (s%64:Nat) l) (r (s/64)).1,(r (s/64)).2)
def ng(b:Int->Bool)(l:List Int):Bool:=l.rec true λc _ r=>cond (b c) r false
def gd(l:Ln):Bool:=cond (decide (l.1<0)) (cond (ng (λc=>decide (c=0)) l.2.1) (ng (λc=>decide (c<=0)) l.2.2) false) false
def ck(d:List (List Ln)):Nat->Bool:=d.rec (λ_=>true) λg _ r s=>cond (gd (sm g s).1) (r (sm g s).2) false
section
variable {xs:List Int}{ns:List Nat}
theorem eW{a b:Bool}(h:cond a b false=true):a=true/\b=true:=by
 cases a with
 |true=>exact⟨rfl,h⟩
 |false=>exact absurd h Bool.false_ne_true
theorem sm_ok{g:List Ln}:∀ (s:Nat),Sg xs ns g->0<=ev xs ns (sm g s).1:=by
 induction g with
 |nil=>exact λs _=>le_of_eq (mI xs ns 0).symm
 |cons l g ih=>
  intro s h
  show 0<=ev xs ns (la (lm _ l) (sm g (s/64)).1)
  rw[aBk,aBj]
  exact Int.add_nonneg (Int.mul_nonneg (natCast_nonneg _) (h l (.head _))) (ih _ λq m=>h q (.tail _ m))
theorem ng_le{b:Int->Bool}{l:List Int}(k:∀ c x,b c=true->0<=x->c*x<=0):∀ (x:List Int),(∀ y∈x,0<=y)->ng b l=true->dot l x<=0:=by
 induction l with
 |nil=>exact λ_ _ _=>Int.le_refl _
 |cons c l ih=>
  intro x h e
  cases x with
  |nil=>exact Int.le_refl _
  |cons x xs=>exact Int.add_nonpos (k c x (eW e).1 (h x (.head _))) (ih xs (λy m=>h y (.tail _ m)) (eW e).2)
theorem aDp{l:List Int}:∀ (x:List Int),ng (λc=>decide (c=0)) l=true->dot l x<=0:=by
 induction l with
 |nil=>exact λ_ _=>Int.le_refl _
 |cons c l ih=>
  intro x e
  cases x with
  |nil=>exact Int.le_refl _
  |cons x xs=>exact Int.add_nonpos (le_of_eq (of_decide_eq_true (eW e).1▸Int.zero_mul x)) (ih xs (eW e).2)
theorem gd_no{l:Ln}(h:gd l=true): ¬0<=ev xs ns l:=λg=>
 absurd (le_trans g (Int.add_le_add_left (Int.add_nonpos (aDp xs (eW (eW h).2).1)
  (ng_le (λc x e h=>Int.mul_nonpos_of_nonpos_of_nonneg (of_decide_eq_true e) h) (ns.map Nat.cast) (λy m=>by obtain⟨n,_,e⟩:=mem_map.mp m;exact e▸natCast_nonneg n) (eW (eW h).2).2)) l.1))
  (Int.not_le.mpr (by rw[add_zero];exact of_decide_eq_true (eW h).1))
theorem ck_no{d:List (List Ln)}:∀ {s:Nat},ck d s=true->¬Sd xs ns d:=by
 induction d with
 |nil=>exact λ_ ⟨_,m,_⟩=>absurd m not_mem_nil
 |cons g d ih=>
  intro s h ⟨g',m,k⟩
  cases m with
  |head=>exact gd_no (eW h).1 (sm_ok s k)
  |tail _ m=>exact ih (eW h).2 ⟨g',m,k⟩
end
def lit(f:Nat):Nat->Nat×Nat:=f.rec (λs=>(0,s)) λ_ r s=>cond (ble 32 (s%64)) ((s%64-32)+32*(r (s/64)).1,(r (s/64)).2) (s%64,s/64)
def dec(f:Nat):Nat->T×Nat:=f.rec (λs=>(.v 0,s)) λ_ r s=>
 cond (ble 40 (s%64)) (cond (ble 61 (s%64)) ((lit 30 (s/64)).rec λn s'=>cond (ble (s%64) 61) (.k n,s') ((r s').rec λx s=>(.o (n+32) x x,s))) (.v (s%64-40),s/64))
  ((r (s/64)).rec λx s'=>(r s').rec λy s''=>(.o (s%64) x y,s''))
theorem R(k:Nat)(xs:List Int)(ns:List Nat){P:Prop}(h:dP xs ns (dec 99 k).1=P:=by rfl')(c:ck (dn (dec 99 k).1).2 (dec 99 k).2=true:=by rfl'):P:=h▸Classical.not_not.mp λz=>ck_no c ((dn_ok _).2 z)
end Z
end
section
theorem xA{p0:Prop}{p1:Prop}{G:Prop}(h:p0/\p1)(k:p0->p1->G):G:=k h.1 h.2
theorem xE{α:Sort _}{p0:α->Prop}{G:Prop}(h:∃ a0:α,p0 a0)(k:∀ a0,p0 a0->G):G:=h.elim λa0 h1=>k a0 h1
theorem xAA{p0:Prop}{p1:Prop}{p2:Prop}{G:Prop}(h:p0/\p1/\p2)(k:p0->p1->p2->G):G:=k h.1 h.2.1 h.2.2
theorem xAE{α:Sort _}{p0:Prop}{p1:α->Prop}{G:Prop}(h:p0/\∃ a0:α,p1 a0)(k:p0->∀ a0,p1 a0->G):G:=h.2.elim λa0 h1=>k h.1 a0 h1
theorem xEA{α:Sort _}{p0:α->Prop}{p1:α->Prop}{G:Prop}(h:∃ a0:α,p0 a0/\p1 a0)(k:∀ a0,p0 a0->p1 a0->G):G:=h.elim λa0 h1=>k a0 h1.1 h1.2
theorem xEE{α β:Sort _}{p0:α->β->Prop}{G:Prop}(h:∃ a0:α,∃ a1:β,p0 a0 a1)(k:∀ a0,∀ a1,p0 a0 a1->G):G:=h.elim λa0 h1=>h1.elim λa1 h2=>k a0 a1 h2
theorem xAAA{p0:Prop}{p1:Prop}{p2:Prop}{p3:Prop}{G:Prop}(h:p0/\p1/\p2/\p3)(k:p0->p1->p2->p3->G):G:=k h.1 h.2.1 h.2.2.1 h.2.2.2
theorem xAEA{α:Sort _}{p0:Prop}{p1:α->Prop}{p2:α->Prop}{G:Prop}(h:p0/\∃ a0:α,p1 a0/\p2 a0)(k:p0->∀ a0,p1 a0->p2 a0->G):G:=h.2.elim λa0 h1=>k h.1 a0 h1.1 h1.2
theorem cX{α:Sort _}{p0:α->Prop}{p1:α->Prop}{p2:α->Prop}{G:Prop}(h:∃ a0:α,p0 a0/\p1 a0/\p2 a0)(k:∀ a0,p0 a0->p1 a0->p2 a0->G):G:=h.elim λa0 h1=>k a0 h1.1 h1.2.1 h1.2.2
theorem gZ{α β:Sort _}{p0:α->β->Prop}{p1:α->β->Prop}{G:Prop}(h:∃ a0:α,∃ a1:β,p0 a0 a1/\p1 a0 a1)(k:∀ a0,∀ a1,p0 a0 a1->p1 a0 a1->G):G:=h.elim λa0 h1=>h1.elim λa1 h2=>k a0 a1 h2.1 h2.2
theorem sM{α β γ:Sort _}{p0:α->β->γ->Prop}{G:Prop}(h:∃ a0:α,∃ a1:β,∃ a2:γ,p0 a0 a1 a2)(k:∀ a0,∀ a1,∀ a2,p0 a0 a1 a2->G):G:=h.elim λa0 h1=>h1.elim λa1 h2=>h2.elim λa2 h3=>k a0 a1 a2 h3
theorem xAAAA{p0:Prop}{p1:Prop}{p2:Prop}{p3:Prop}{p4:Prop}{G:Prop}(h:p0/\p1/\p2/\p3/\p4)(k:p0->p1->p2->p3->p4->G):G:=k h.1 h.2.1 h.2.2.1 h.2.2.2.1 h.2.2.2.2
theorem nJ{α:Sort _}{p0:Prop}{p1:Prop}{p2:α->Prop}{p3:α->Prop}{G:Prop}(h:p0/\p1/\∃ a0:α,p2 a0/\p3 a0)(k:p0->p1->∀ a0,p2 a0->p3 a0->G):G:=h.2.2.elim λa0 h1=>k h.1 h.2.1 a0 h1.1 h1.2
theorem xEAAA{α:Sort _}{p0:α->Prop}{p1:α->Prop}{p2:α->Prop}{p3:α->Prop}{G:Prop}(h:∃ a0:α,p0 a0/\p1 a0/\p2 a0/\p3 a0)(k:∀ a0,p0 a0->p1 a0->p2 a0->p3 a0->G):G:=h.elim λa0 h1=>k a0 h1.1 h1.2.1 h1.2.2.1 h1.2.2.2
theorem t9{α β:Sort _}{p0:α->Prop}{p1:α->Prop}{p2:α->β->Prop}{G:Prop}(h:∃ a0:α,p0 a0/\p1 a0/\∃ a1:β,p2 a0 a1)(k:∀ a0,p0 a0->p1 a0->∀ a1,p2 a0 a1->G):G:=h.elim λa0 h1=>h1.2.2.elim λa1 h2=>k a0 h1.1 h1.2.1 a1 h2
theorem w8{α β:Sort _}{p0:α->Prop}{p1:α->β->Prop}{p2:α->β->Prop}{G:Prop}(h:∃ a0:α,p0 a0/\∃ a1:β,p1 a0 a1/\p2 a0 a1)(k:∀ a0,p0 a0->∀ a1,p1 a0 a1->p2 a0 a1->G):G:=h.elim λa0 h1=>h1.2.elim λa1 h2=>k a0 h1.1 a1 h2.1 h2.2
theorem bL{α β:Sort _}{p0:α->β->Prop}{p1:α->β->Prop}{p2:α->β->Prop}{G:Prop}(h:∃ a0:α,∃ a1:β,p0 a0 a1/\p1 a0 a1/\p2 a0 a1)(k:∀ a0,∀ a1,p0 a0 a1->p1 a0 a1->p2 a0 a1->G):G:=h.elim λa0 h1=>h1.elim λa1 h2=>k a0 a1 h2.1 h2.2.1 h2.2.2
theorem gS{α β γ:Sort _}{p0:α->β->γ->Prop}{p1:α->β->γ->Prop}{G:Prop}(h:∃ a0:α,∃ a1:β,∃ a2:γ,p0 a0 a1 a2/\p1 a0 a1 a2)(k:∀ a0,∀ a1,∀ a2,p0 a0 a1 a2->p1 a0 a1 a2->G):G:=h.elim λa0 h1=>h1.elim λa1 h2=>h2.elim λa2 h3=>k a0 a1 a2 h3.1 h3.2
theorem xEEEE{α β γ δ:Sort _}{p0:α->β->γ->δ->Prop}{G:Prop}(h:∃ a0:α,∃ a1:β,∃ a2:γ,∃ a3:δ,p0 a0 a1 a2 a3)(k:∀ a0,∀ a1,∀ a2,∀ a3,p0 a0 a1 a2 a3->G):G:=h.elim λa0 h1=>h1.elim λa1 h2=>h2.elim λa2 h3=>h3.elim λa3 h4=>k a0 a1 a2 a3 h4
theorem xAAAEA{α:Sort _}{p0:Prop}{p1:Prop}{p2:Prop}{p3:α->Prop}{p4:α->Prop}{G:Prop}(h:p0/\p1/\p2/\∃ a0:α,p3 a0/\p4 a0)(k:p0->p1->p2->∀ a0,p3 a0->p4 a0->G):G:=h.2.2.2.elim λa0 h1=>k h.1 h.2.1 h.2.2.1 a0 h1.1 h1.2
theorem sN{α:Sort _}{p0:Prop}{p1:Prop}{p2:α->Prop}{p3:α->Prop}{p4:α->Prop}{G:Prop}(h:p0/\p1/\∃ a0:α,p2 a0/\p3 a0/\p4 a0)(k:p0->p1->∀ a0,p2 a0->p3 a0->p4 a0->G):G:=h.2.2.elim λa0 h1=>k h.1 h.2.1 a0 h1.1 h1.2.1 h1.2.2
theorem iW{α β:Sort _}{p0:Prop}{p1:Prop}{p2:α->β->Prop}{p3:α->β->Prop}{G:Prop}(h:p0/\p1/\∃ a0:α,∃ a1:β,p2 a0 a1/\p3 a0 a1)(k:p0->p1->∀ a0,∀ a1,p2 a0 a1->p3 a0 a1->G):G:=h.2.2.elim λa0 h1=>h1.elim λa1 h2=>k h.1 h.2.1 a0 a1 h2.1 h2.2
theorem w9{α:Sort _}{p0:α->Prop}{p1:α->Prop}{p2:α->Prop}{p3:α->Prop}{p4:α->Prop}{G:Prop}(h:∃ a0:α,p0 a0/\p1 a0/\p2 a0/\p3 a0/\p4 a0)(k:∀ a0,p0 a0->p1 a0->p2 a0->p3 a0->p4 a0->G):G:=h.elim λa0 h1=>k a0 h1.1 h1.2.1 h1.2.2.1 h1.2.2.2.1 h1.2.2.2.2
theorem xEEAAA{α β:Sort _}{p0:α->β->Prop}{p1:α->β->Prop}{p2:α->β->Prop}{p3:α->β->Prop}{G:Prop}(h:∃ a0:α,∃ a1:β,p0 a0 a1/\p1 a0 a1/\p2 a0 a1/\p3 a0 a1)(k:∀ a0,∀ a1,p0 a0 a1->p1 a0 a1->p2 a0 a1->p3 a0 a1->G):G:=h.elim λa0 h1=>h1.elim λa1 h2=>k a0 a1 h2.1 h2.2.1 h2.2.2.1 h2.2.2.2
theorem fF{α β γ:Sort _}{p0:α->β->γ->Prop}{p1:α->β->γ->Prop}{p2:α->β->γ->Prop}{G:Prop}(h:∃ a0:α,∃ a1:β,∃ a2:γ,p0 a0 a1 a2/\p1 a0 a1 a2/\p2 a0 a1 a2)(k:∀ a0,∀ a1,∀ a2,p0 a0 a1 a2->p1 a0 a1 a2->p2 a0 a1 a2->G):G:=h.elim λa0 h1=>h1.elim λa1 h2=>h2.elim λa2 h3=>k a0 a1 a2 h3.1 h3.2.1 h3.2.2
theorem lN{α β γ δ:Sort _}{p0:α->β->γ->δ->Prop}{p1:α->β->γ->δ->Prop}{G:Prop}(h:∃ a0:α,∃ a1:β,∃ a2:γ,∃ a3:δ,p0 a0 a1 a2 a3/\p1 a0 a1 a2 a3)(k:∀ a0,∀ a1,∀ a2,∀ a3,p0 a0 a1 a2 a3->p1 a0 a1 a2 a3->G):G:=h.elim λa0 h1=>h1.elim λa1 h2=>h2.elim λa2 h3=>h3.elim λa3 h4=>k a0 a1 a2 a3 h4.1 h4.2
theorem aCo{α β:Sort _}{p0:Prop}{p1:Prop}{p2:α->Prop}{p3:α->β->Prop}{p4:α->β->Prop}{G:Prop}(h:p0/\p1/\∃ a0:α,p2 a0/\∃ a1:β,p3 a0 a1/\p4 a0 a1)(k:p0->p1->∀ a0,p2 a0->∀ a1,p3 a0 a1->p4 a0 a1->G):G:=h.2.2.elim λa0 h1=>h1.2.elim λa1 h2=>k h.1 h.2.1 a0 h1.1 a1 h2.1 h2.2
theorem oF{α β γ:Sort _}{p0:Prop}{p1:Prop}{p2:α->β->γ->Prop}{p3:α->β->γ->Prop}{G:Prop}(h:p0/\p1/\∃ a0:α,∃ a1:β,∃ a2:γ,p2 a0 a1 a2/\p3 a0 a1 a2)(k:p0->p1->∀ a0,∀ a1,∀ a2,p2 a0 a1 a2->p3 a0 a1 a2->G):G:=h.2.2.elim λa0 h1=>h1.elim λa1 h2=>h2.elim λa2 h3=>k h.1 h.2.1 a0 a1 a2 h3.1 h3.2
theorem oE{α:Sort _}{p0:α->Prop}{p1:α->Prop}{p2:α->Prop}{p3:α->Prop}{p4:α->Prop}{p5:α->Prop}{G:Prop}(h:∃ a0:α,p0 a0/\p1 a0/\p2 a0/\p3 a0/\p4 a0/\p5 a0)(k:∀ a0,p0 a0->p1 a0->p2 a0->p3 a0->p4 a0->p5 a0->G):G:=h.elim λa0 h1=>k a0 h1.1 h1.2.1 h1.2.2.1 h1.2.2.2.1 h1.2.2.2.2.1 h1.2.2.2.2.2
theorem cH{α β γ:Sort _}{p0:α->β->γ->Prop}{p1:α->β->γ->Prop}{p2:α->β->γ->Prop}{p3:α->β->γ->Prop}{G:Prop}(h:∃ a0:α,∃ a1:β,∃ a2:γ,p0 a0 a1 a2/\p1 a0 a1 a2/\p2 a0 a1 a2/\p3 a0 a1 a2)(k:∀ a0,∀ a1,∀ a2,p0 a0 a1 a2->p1 a0 a1 a2->p2 a0 a1 a2->p3 a0 a1 a2->G):G:=h.elim λa0 h1=>h1.elim λa1 h2=>h2.elim λa2 h3=>k a0 a1 a2 h3.1 h3.2.1 h3.2.2.1 h3.2.2.2
theorem oC{α β γ δ:Sort _}{p0:α->β->γ->δ->Prop}{p1:α->β->γ->δ->Prop}{p2:α->β->γ->δ->Prop}{G:Prop}(h:∃ a0:α,∃ a1:β,∃ a2:γ,∃ a3:δ,p0 a0 a1 a2 a3/\p1 a0 a1 a2 a3/\p2 a0 a1 a2 a3)(k:∀ a0,∀ a1,∀ a2,∀ a3,p0 a0 a1 a2 a3->p1 a0 a1 a2 a3->p2 a0 a1 a2 a3->G):G:=h.elim λa0 h1=>h1.elim λa1 h2=>h2.elim λa2 h3=>h3.elim λa3 h4=>k a0 a1 a2 a3 h4.1 h4.2.1 h4.2.2
theorem lO{α:Sort _}{p0:Prop}{p1:Prop}{p2:Prop}{p3:α->Prop}{p4:α->Prop}{p5:α->Prop}{p6:α->Prop}{G:Prop}(h:p0/\p1/\p2/\∃ a0:α,p3 a0/\p4 a0/\p5 a0/\p6 a0)(k:p0->p1->p2->∀ a0,p3 a0->p4 a0->p5 a0->p6 a0->G):G:=h.2.2.2.elim λa0 h1=>k h.1 h.2.1 h.2.2.1 a0 h1.1 h1.2.1 h1.2.2.1 h1.2.2.2
theorem lM{α β γ δ:Sort _}{p0:α->β->γ->δ->Prop}{p1:α->β->γ->δ->Prop}{p2:α->β->γ->δ->Prop}{p3:α->β->γ->δ->Prop}{G:Prop}(h:∃ a0:α,∃ a1:β,∃ a2:γ,∃ a3:δ,p0 a0 a1 a2 a3/\p1 a0 a1 a2 a3/\p2 a0 a1 a2 a3/\p3 a0 a1 a2 a3)(k:∀ a0,∀ a1,∀ a2,∀ a3,p0 a0 a1 a2 a3->p1 a0 a1 a2 a3->p2 a0 a1 a2 a3->p3 a0 a1 a2 a3->G):G:=h.elim λa0 h1=>h1.elim λa1 h2=>h2.elim λa2 h3=>h3.elim λa3 h4=>k a0 a1 a2 a3 h4.1 h4.2.1 h4.2.2.1 h4.2.2.2
theorem jE{α β γ δ ε ζ:Sort _}{p0:α->β->γ->δ->ε->ζ->Prop}{p1:α->β->γ->δ->ε->ζ->Prop}{G:Prop}(h:∃ a0:α,∃ a1:β,∃ a2:γ,∃ a3:δ,∃ a4:ε,∃ a5:ζ,p0 a0 a1 a2 a3 a4 a5/\p1 a0 a1 a2 a3 a4 a5)(k:∀ a0,∀ a1,∀ a2,∀ a3,∀ a4,∀ a5,p0 a0 a1 a2 a3 a4 a5->p1 a0 a1 a2 a3 a4 a5->G):G:=h.elim λa0 h1=>h1.elim λa1 h2=>h2.elim λa2 h3=>h3.elim λa3 h4=>h4.elim λa4 h5=>h5.elim λa5 h6=>k a0 a1 a2 a3 a4 a5 h6.1 h6.2
theorem fX{α β γ δ ε:Sort _}{p0:Prop}{p1:Prop}{p2:α->β->γ->δ->ε->Prop}{p3:α->β->γ->δ->ε->Prop}{p4:α->β->γ->δ->ε->Prop}{G:Prop}(h:p0/\p1/\∃ a0:α,∃ a1:β,∃ a2:γ,∃ a3:δ,∃ a4:ε,p2 a0 a1 a2 a3 a4/\p3 a0 a1 a2 a3 a4/\p4 a0 a1 a2 a3 a4)(k:p0->p1->∀ a0,∀ a1,∀ a2,∀ a3,∀ a4,p2 a0 a1 a2 a3 a4->p3 a0 a1 a2 a3 a4->p4 a0 a1 a2 a3 a4->G):G:=h.2.2.elim λa0 h1=>h1.elim λa1 h2=>h2.elim λa2 h3=>h3.elim λa3 h4=>h4.elim λa4 h5=>k h.1 h.2.1 a0 a1 a2 a3 a4 h5.1 h5.2.1 h5.2.2
theorem qV{α β γ δ ε:Sort _}{p0:α->β->γ->δ->ε->Prop}{p1:α->β->γ->δ->ε->Prop}{p2:α->β->γ->δ->ε->Prop}{p3:α->β->γ->δ->ε->Prop}{p4:α->β->γ->δ->ε->Prop}{p5:α->β->γ->δ->ε->Prop}{G:Prop}(h:∃ a0:α,∃ a1:β,∃ a2:γ,∃ a3:δ,∃ a4:ε,p0 a0 a1 a2 a3 a4/\p1 a0 a1 a2 a3 a4/\p2 a0 a1 a2 a3 a4/\p3 a0 a1 a2 a3 a4/\p4 a0 a1 a2 a3 a4/\p5 a0 a1 a2 a3 a4)(k:∀ a0,∀ a1,∀ a2,∀ a3,∀ a4,p0 a0 a1 a2 a3 a4->p1 a0 a1 a2 a3 a4->p2 a0 a1 a2 a3 a4->p3 a0 a1 a2 a3 a4->p4 a0 a1 a2 a3 a4->p5 a0 a1 a2 a3 a4->G):G:=h.elim λa0 h1=>h1.elim λa1 h2=>h2.elim λa2 h3=>h3.elim λa3 h4=>h4.elim λa4 h5=>k a0 a1 a2 a3 a4 h5.1 h5.2.1 h5.2.2.1 h5.2.2.2.1 h5.2.2.2.2.1 h5.2.2.2.2.2
theorem fW{α β γ δ:Sort _}{p0:α->β->γ->δ->Prop}{p1:α->β->γ->δ->Prop}{p2:α->β->γ->δ->Prop}{p3:α->β->γ->δ->Prop}{p4:α->β->γ->δ->Prop}{p5:α->β->γ->δ->Prop}{p6:α->β->γ->δ->Prop}{p7:α->β->γ->δ->Prop}{G:Prop}(h:∃ a0:α,∃ a1:β,∃ a2:γ,∃ a3:δ,p0 a0 a1 a2 a3/\p1 a0 a1 a2 a3/\p2 a0 a1 a2 a3/\p3 a0 a1 a2 a3/\p4 a0 a1 a2 a3/\p5 a0 a1 a2 a3/\p6 a0 a1 a2 a3/\p7 a0 a1 a2 a3)(k:∀ a0,∀ a1,∀ a2,∀ a3,p0 a0 a1 a2 a3->p1 a0 a1 a2 a3->p2 a0 a1 a2 a3->p3 a0 a1 a2 a3->p4 a0 a1 a2 a3->p5 a0 a1 a2 a3->p6 a0 a1 a2 a3->p7 a0 a1 a2 a3->G):G:=h.elim λa0 h1=>h1.elim λa1 h2=>h2.elim λa2 h3=>h3.elim λa3 h4=>k a0 a1 a2 a3 h4.1 h4.2.1 h4.2.2.1 h4.2.2.2.1 h4.2.2.2.2.1 h4.2.2.2.2.2.1 h4.2.2.2.2.2.2.1 h4.2.2.2.2.2.2.2
theorem fD{α β γ δ ε ζ η θ ι κ μ ν:Sort _}{p0:α->β->γ->δ->ε->ζ->η->θ->ι->κ->μ->ν->Prop}{G:Prop}(h:∃ a0:α,∃ a1:β,∃ a2:γ,∃ a3:δ,∃ a4:ε,∃ a5:ζ,∃ a6:η,∃ a7:θ,∃ a8:ι,∃ a9:κ,∃ a10:μ,∃ a11:ν,p0 a0 a1 a2 a3 a4 a5 a6 a7 a8 a9 a10 a11)(k:∀ a0,∀ a1,∀ a2,∀ a3,∀ a4,∀ a5,∀ a6,∀ a7,∀ a8,∀ a9,∀ a10,∀ a11,p0 a0 a1 a2 a3 a4 a5 a6 a7 a8 a9 a10 a11->G):G:=h.elim λa0 h1=>h1.elim λa1 h2=>h2.elim λa2 h3=>h3.elim λa3 h4=>h4.elim λa4 h5=>h5.elim λa5 h6=>h6.elim λa6 h7=>h7.elim λa7 h8=>h8.elim λa8 h9=>h9.elim λa9 h10=>h10.elim λa10 h11=>h11.elim λa11 h12=>k a0 a1 a2 a3 a4 a5 a6 a7 a8 a9 a10 a11 h12
end
section
variable {a b c d e f g h i j k l:Int}{m n p q r s t u v w x y:Nat}
theorem A0:m+(10*n)<=700->m<1000:=Z.R 0x417e8f41f6800057cf692bea00007 [] [m,n]
theorem A1:m+(40*n)<=8000->m+64<9900:=Z.R 0x1049d6cf41f4283da000001fa83da41a3ea00007 [] [m,n]
theorem A2:m<100->m<=16777216:=Z.R 0x1050820820f6800393d07da00007 [] [m]
theorem A3:m<1000000->m<=16777216:=Z.R 0x1050820820f6801ec3283d07da00007 [] [m]
theorem A4:m+n<1000000->p=m->q=n->p+q<=16777216:=Z.R 0x1001001050820820f6ba80029ac11e8a811dec3283d07da68000007 [] [m,n,p,q]
theorem A5:(((0:Int)<=a+((m:Nat):Int))/\(a+((m:Nat):Int)<((m:Nat):Int)))->(a<0)/\((-((m:Nat):Int)<=a)/\((Int.toNat (a+((m:Nat):Int))=Int.toNat (a+((m:Nat):Int)))/\(Int.toNat (a+((m:Nat):Int))<m))):=Z.R 0x40041040040040000001000000040040001000001040000041040000040000001000000040041040a01f68a28128004000a28a04a00128a28128004045a28a2810508503d07da00085a28101f68a04a00002a28128000f42147 [a] [m]
theorem A6:(((0:Int)<=a)/\(a<((m:Nat):Int)))->((0:Int)<=a)/\((Int.toNat a=Int.toNat a)/\(Int.toNat a<m)):=Z.R 0x4004104004004000000100000004004000104000004004000104000004000000100000004006807da28100028a04a2810116803d085a28101f68002a00f42147 [a] [m]
theorem A7:m=n-> -((n:Nat):Int)<=a-> -((m:Nat):Int)<=a:=Z.R 0x1041028a28a04142a28a29105087a68047 [a] [m,n]
theorem A9: ¬(m-1<n)->n<=m-1:=Z.R 0x4004004104004104004004007da01a40a2907d07da01000107 [] [m,n]
theorem A10:((-1000000):Int)<a->b<1000000->Int.toNat (b-a)<2000000:=Z.R 0x1000001001041f61920f41f68a290440007b0ca0f41f690021e807da1ec3283d140087 [a,b] []
theorem A11:a<1000000->((-1000000):Int)<b->Int.toNat (b-a)<2000000->((((((-9223372036854775808):Int)<=a)/\(a<9223372036854775808))/\((((-9223372036854775808):Int)<=b)/\(b<9223372036854775808)))/\((((-9223372036854775808):Int)<=max (b-a) 0)/\(max (b-a) 0<9223372036854775808)))/\((max (b-a) 0=0)\/((((-9223372036854775808):Int)<=b)/\(b<9223372036854775808))):=Z.R 0x40000000001000000000040000000001000000000041000000001040000000040001000001000040001000000001000040001000000001040000001001001040001001000001040041000040000000001000000000040000000001000000000040001000001000040001000040001040000001001000000001001000001000000001000040001040001040001001000001041001008820820820820820820f41f69002a6822082082082082082083d142140f40f68a41083188820820820820820820f41f40f68a41080080f68a410a822082082082082082083d142148820820820820820820f41f69002a6822082082082082082083d142148820820820820820820f41f68002a2822082082082082082083d14214514507d86483d07da28a41100007a41f687b0ca0f450021dec3283d07da00087 [a,b] []
theorem A12:m<1000000->n=m->n<=16777216:=Z.R 0x1001050820820f69028a411dec3283d07da00007 [] [m,n]
theorem A13: ¬((1:Int)<0):=Z.R 0x1a00f41f41f40084 [] []
theorem A14: ¬(((m:Nat):Int)<0):=Z.R 0x6803d07da28100084 [] [m]
theorem A15:(0:Int)<1:=Z.R 0x107d07d03d002 [] []
theorem A16:m<=n->min (p-q) (m-q)<=n:=Z.R 0x1000000040000001000000041000001040000040000001040001040000069ae806ba810c0a68007 [] [m,n,p,q]
theorem A17:(1:Nat)<=m->¬(((m:Nat):Int)=0):=Z.R 0x106803da2810312807d007 [] [m]
theorem A18:(((1:Int)<=a)/\((a<=b)/\((b<=((m:Nat):Int))/\(m<1000))))->(0:Int)<=a:=Z.R 0x1000001a00f427e8f41f68000a28129085a68085a01f42147 [a,b] [m]
theorem A19:(((1:Int)<=((m:Nat):Int))/\((((m:Nat):Int)<=a)/\((a<=((n:Nat):Int))/\(n<1000))))->(0:Int)<=a:=Z.R 0x1000041a00f427e8f41f69000a29128085a28a04085a28101f42147 [a] [m,n]
theorem A20:(((1:Int)<=((m:Nat):Int))/\((((m:Nat):Int)<=((n:Nat):Int))/\((((n:Nat):Int)<=((p:Nat):Int))/\(p<1000))))->(1:Nat)<=m:=Z.R 0x1000001a01f407e8f41f6a000a2a128a44085a29128a04085a28101f42147 [] [m,n,p]
theorem A21:(((1:Int)<=((m:Nat):Int))/\((((m:Nat):Int)<=((n:Nat):Int))/\((((n:Nat):Int)<=((p:Nat):Int))/\(p<1000))))->m<=n:=Z.R 0x40001029a007e8f41f6a000a2a128a44085a29128a04085a28101f42147 [] [m,n,p]
theorem A22:m=n->(((1:Int)<=((p:Nat):Int))/\((((p:Nat):Int)<=((q:Nat):Int))/\((((q:Nat):Int)<=((n:Nat):Int))/\(n<1000))))->q<=m:=Z.R 0x40040001028ac07e8f41f69000a29128ac4085a2b128a84085a2a101f42147a68047 [] [m,n,p,q]
theorem A23:m=n->(((1:Int)<=((p:Nat):Int))/\((((p:Nat):Int)<=((q:Nat):Int))/\((((q:Nat):Int)<=((n:Nat):Int))/\(n<1000))))->m<=16777216:=Z.R 0x104000000142082083da007e8f41f69000a29128ac4085a2b128a84085a2a101f42147a68047 [] [m,n,p,q]
theorem A24:(((1:Int)<=a)/\((a<=((m:Nat):Int))/\(m<1000)))->(0:Int)<=a:=Z.R 0x40001a00f427e8f41f68000a28128085a01f42147 [a] [m]
theorem A25:(((1:Int)<=((m:Nat):Int))/\((((m:Nat):Int)<=((n:Nat):Int))/\(n<1000)))->(1:Nat)<=m:=Z.R 0x40001a01f407e8f41f69000a29128a04085a28101f42147 [] [m,n]
theorem A26:m=n->(((1:Int)<=((p:Nat):Int))/\((((p:Nat):Int)<=((n:Nat):Int))/\(n<1000)))->p<=m:=Z.R 0x1001001028a807e8f41f69000a29128a84085a2a101f42147a68047 [] [m,n,p]
theorem A27:m=n->(((1:Int)<=((p:Nat):Int))/\((((p:Nat):Int)<=((n:Nat):Int))/\(n<1000)))->m<=16777216:=Z.R 0x4100000142082083da007e8f41f69000a29128a84085a2a101f42147a68047 [] [m,n,p]
theorem A28:m<50->n+(40*p)<=8000->n+1+(min q m)<9900:=Z.R 0x1041041001049d6cf41f68ac307da40000007ea0f6a068fa90001c1cbd07da00007 [] [m,n,p,q]
theorem A29:m<1000000->n<=m->n<=16777216:=Z.R 0x41050820820f69028a401dec3283d07da00007 [] [m,n]
theorem A30:m+(10*(n+1))<=700->m+1+(10*n)<=700:=Z.R 0x1055f3da4af81f68000015f3d07da402bea00007 [] [m,n]
theorem A31:m+(40*(n+1))<=8000->m+3+(40*n)<=8000:=Z.R 0x1047ea0f69068f83f68000007ea0f41f69001a3ea00007 [] [m,n]
theorem A32:m+1<=n->m<=n:=Z.R 0x41a6802907da00007 [] [m,n]
theorem A33:m=n->n<1000000->m<=16777216:=Z.R 0x1040050820820f6801ec3283d07da40007a68047 [] [m,n]
theorem A34:m+(10*(n+1))<=700->m+0+1+(10*n)<=700:=Z.R 0x4157cf692be07d03da00000015f3d07da402bea00007 [] [m,n]
theorem A35:m+(40*(n+1))<=8000->m+0+3+(40*n)<=8000:=Z.R 0x411fa83da41a3e0fd03da00000007ea0f41f69001a3ea00007 [] [m,n]
theorem A36:m+(10*(n+1))<=700->m+(1+0)+0+(10*n)<=700:=Z.R 0x1055f3da4af80f40f41f40a00000015f3d07da402bea00007 [] [m,n]
theorem A37:m+(40*(n+1))<=8000->m+(3+0)+0+(40*n)<=8000:=Z.R 0x1047ea0f69068f80f40f43f40a00000007ea0f41f69001a3ea00007 [] [m,n]
theorem A38:m+(10*(n+2))<=700->m+(10*(n+1))<=700:=Z.R 0x1055f3d07da402bea00015f3d0bda402bea00007 [] [m,n]
theorem A39:m+(40*(n+2))<=8000->m+1+(40*(n+1))<=8000:=Z.R 0x411fa83d07da40068f81f68000007ea0f42f69001a3ea00007 [] [m,n]
theorem A40:m+2<=n->p+(10*n)<=700->p+(10*(m+2))<=700:=Z.R 0x41295f3d0bda002bea80015f3da4afaa0001e90bda00007 [] [m,n,p]
theorem A41:m+2<=n->p+(40*n)<=8000->p+(40*(m+2))<=8000:=Z.R 0x41a07ea0f42f68001a3ea80007ea0f69068faa0001e90bda00007 [] [m,n,p]
theorem A42:m+(10*(n+1))<=700->m+(10*n)<=700:=Z.R 0x4157cf692bea00015f3d07da402bea00007 [] [m,n]
theorem A43:m+(40*(n+1))<=8000->m+1+1+(40*n)<=8000:=Z.R 0x411fa83da41a3e07d07da00000007ea0f41f69001a3ea00007 [] [m,n]
theorem A44:m+(40*(n+1))<=8000->m+1+(40*n)<=8000:=Z.R 0x1047ea0f69068f81f68000007ea0f41f69001a3ea00007 [] [m,n]
theorem A45:((m:Nat):Int)<a->¬(a<=((m:Nat):Int)):=Z.R 0x41a28a04a0212807da28100087 [a] [m]
theorem A46:m+1<=n->p+(10*n)<=700->p+(10*m)<=700:=Z.R 0x104a57cf682bea80015f3da4afaa0001e907da00007 [] [m,n,p]
theorem A47:m+1<=n->p+(40*n)<=8000->p+1+(40*m)<=8000:=Z.R 0x41a07ea0f68068f81f6a000007ea0f69068faa0001e907da00007 [] [m,n,p]
theorem A48:m=n->n<64->m<=16777216:=Z.R 0x1040050820820f6800283d07da40007a68047 [] [m,n]
theorem A49:m<64->n=p->p=m->n<=16777216:=Z.R 0x1001001050820820f69028a811eaa411c283d07da00007 [] [m,n,p]
theorem A51: ¬(m<2)->(2:Nat)<=m:=Z.R 0x41a02f40a02f41f68000107 [] [m]
theorem A52:a<b->b<c->a<c:=Z.R 0x1041a81f68002a81f690021e907da00087 [a,b,c] []
theorem A53:m<n->n<p->m<p:=Z.R 0x1041a81f68000a81f690001e907da00007 [] [m,n,p]
theorem A57:(2:Nat)<=m->m=n->(1:Nat)<=n:=Z.R 0x100106907d029a011e80bd007 [] [m,n]
theorem A59:m+(40*(n+1))<=8000->m+1<9900:=Z.R 0x1049d6cf41f41f68000007ea0f41f69001a3ea00007 [] [m,n]
theorem A60:m<=n->p+(10*n)<=700->p+(10*m)<=700:=Z.R 0x41295f3da0afaa00057cf692bea80007a68007 [] [m,n,p]
theorem A61:m<=n->p+(40*n)<=8000->p+(40*m)<=8000:=Z.R 0x41a07ea0f68068faa0001fa83da41a3ea80007a68007 [] [m,n,p]
theorem A62: ¬(m<=63)->(63:Int)<((m:Nat):Int):=Z.R 0x41a28101f41ffd002a01ffda00107 [] [m]
theorem A63:m<n+1->n<=m->m=n:=Z.R 0x1040040069a01a2900707da4007da00007 [] [m,n]
theorem A64:m<n-1->n-1<n:=Z.R 0x100100000100004100002907d07da4100007da4107da00007 [] [m,n]
theorem A65:m<n->n-1<=m->m=n-1:=Z.R 0x4000000104000104000100100000104000000104000104004000100000107da41a01a01f690401e907da00007 [] [m,n]
theorem A66:m+(n+1)<=p->m<p:=Z.R 0x106a07da0002a07da40a00007 [] [m,n,p]
theorem A67:m+(n+1)<=p->m-1<p:=Z.R 0x40041001a81f41f6804002a07da40a00007 [] [m,n,p]
theorem A68:(1:Nat)<=m->m=m-1->False:=Z.R 0x4004004002807da01a011e807d007 [] [m]
theorem A69:m<=m+(n+1):=Z.R 0x107da40a00a00 [] [m,n]
theorem A70:(1:Nat)<=m+1:=Z.R 0x41f68001f40 [] [m]
theorem A71:m+(n+1)<=p->m+1+n<=p:=Z.R 0x106aa41f6800002a07da40a00007 [] [m,n,p]
theorem A72:(1:Nat)<=m->¬(m=m-1):=Z.R 0x4004004002807da01a0112807d007 [] [m]
theorem A73:m<=n+1+p->m<=n+(p+1):=Z.R 0x1041f6a02902802a07da40028007 [] [m,n,p]
theorem A74:m<n+(p+1)->m<n+1+p:=Z.R 0x106a07da40001f6800007da80a4007da00007 [] [m,n,p]
theorem A75: ¬((0:Nat)<0):=Z.R 0x1a00f41f40f40004 [] []
theorem A76:(1:Nat)<=m->m-1=m->False:=Z.R 0x1000041000028a01f680411e807d007 [] [m]
theorem A77:0+m-1-n=m-1-n:=Z.R 0x40000001000000040000001040000040000001000000040000041040000040001001000000040000001000000040001001000000040000041001000040000001000000040000001040000040000001000000040001001040000040001001001000040000041001000040001001040000040000001000000a41f68041a41f6803d001041 [] [m,n]
theorem A78:m<n->n<p->p-1-n<p-1-m:=Z.R 0x40001040001000041001000001041000000041040000000041000000001040000000040000040001000040001040001000041001000001041000000041040040000041001000001041000000041000000001a01f6a04107da41f6a041000a81f690001e907da00007 [] [m,n,p]
theorem A79:m<n->n-1-p<n:=Z.R 0x40001040001040040040000a41f6a07da4104002907da00007 [] [m,n,p]
theorem A80:(1:Nat)<=m->1+(m-1)<=m:=Z.R 0x40041000a01f68041f4002807d007 [] [m]
theorem A81:m<n->n<1->False:=Z.R 0x41a01f41f690001e907da00007 [] [m,n]
theorem A82:(1:Nat)<=m->n<=1+(m-1)->n<=m:=Z.R 0x41001041000a29001f68041f40a401e807d007 [] [m,n]
theorem A83:m<=1+(n-1)->(1:Nat)<m->(0:Nat)<n:=Z.R 0x4100100006907d03d000a01f41f4000707da4107d028007 [] [m,n]
theorem A84:m<=1+(n-1)->(1:Nat)<m->m-1<n:=Z.R 0x4100000004100100000104000102907d07da01000a01f41f4000707da4107d028007 [] [m,n]
theorem A85:(1:Nat)<m->(0:Nat)=m-1->False:=Z.R 0x104100006807da0103d047a01f41f40007 [] [m]
theorem A86:(1:Nat)<m->(0:Nat)<m-1:=Z.R 0x104100107da0107d03d000a01f41f40007 [] [m]
theorem A87:(1:Nat)<m->m-1<m:=Z.R 0x4104002807d07da01000a01f41f40007 [] [m]
theorem A88:m<=1+(n-1)->(1:Nat)<m->m<=n:=Z.R 0x41001001029a00a01f41f4000707da4107d028007 [] [m,n]
theorem A89:(1:Nat)<=m->¬((1:Nat)<m)->m=1:=Z.R 0x1001041001f68068a01f41f400041e807d007 [] [m]
theorem A90:m<n->n<2->n=1:=Z.R 0x1001041001f69042f41f690001e907da00007 [] [m,n]
theorem A91:m<1->m=0:=Z.R 0x4004103da0107d07da00007 [] [m]
theorem A92:(1:Nat)<=m->¬((1:Nat)=m)->(1:Nat)<1+(m-1):=Z.R 0x41001001000001040001041f68041f4007d07d000a2807d0441e807d007 [] [m]
theorem A93:(1:Nat)<=2:=Z.R 0x42f41f40 [] []
theorem A94:(1:Nat)<=m->¬((1:Nat)=m)->2+(m-(1+1))<=m:=Z.R 0x40040040000000041040000a01f41f40a010bd000a2807d0441e807d007 [] [m]
theorem A95:m=0->¬((0:Nat)<m):=Z.R 0x1001a2807d03d000100f68047 [] [m]
theorem A96:(1:Nat)<=m->¬((1:Nat)=m)->n<=2+(m-(1+1))->n<=m:=Z.R 0x41001001040000000001041040000a29001f41f40a010bd029007a2807d0441e807d007 [] [m,n]
theorem A97:(2:Nat)<=m->(1:Nat)<=m:=Z.R 0x106807d0280bd007 [] [m]
theorem A98:m<=n->m+(n-m)<=n:=Z.R 0x1001040029a29068000a68007 [] [m,n]
theorem A99:(2:Nat)<=m->m<=n->(1:Nat)<=n:=Z.R 0x4106907d029a001e80bd007 [] [m,n]
theorem A100:m<=n->p<=m+(n-m)->p<=n:=Z.R 0x1040041040029a80a2906802a007a68007 [] [m,n,p]
theorem A101:m<=n->n<=p->m<=p:=Z.R 0x4106aa00aa9007a68007 [] [m,n,p]
theorem A102:m-n<=0->n<=p->m<=p:=Z.R 0x41001041040aa802aa401c0f69a01007 [] [m,n,p]
theorem A103:m-n<=m:=Z.R 0x1001028a68040 [] [m,n]
theorem A104:m<=n->n-(n-m)=m:=Z.R 0x1040041000001000041001001040001000001000001000028a29069041a68007 [] [m,n]
theorem A105:m+0=n->m=n:=Z.R 0x41001001a6806903da00047 [] [m,n]
theorem A106:m+(n+1)=p->m<p:=Z.R 0x4006a07da0002a07da40a00047 [] [m,n,p]
theorem A107:m-0<=m:=Z.R 0x40040a00f68040 [] [m]
theorem A108:m<n->¬(n<=m):=Z.R 0x41a28a4012907da00007 [] [m,n]
theorem A109:m+(n+1)=p->m+1+n=p:=Z.R 0x104004006aa41f6800006a07da40a00047 [] [m,n,p]
theorem A110:m<n->m=p->¬(n=p):=Z.R 0x41001a2aa4112aa011e907da00007 [] [m,n,p]
theorem A111:m<n->n<p+1->m=q->(q<n)/\(n<=p):=Z.R 0x100004004100006aa40a41f6b00016ba011c1f6a001f690001e907da00007 [] [m,n,p,q]
theorem A112:m<n->m=p->p<=n-1:=Z.R 0x1041001040040041f6906a02aa011e907da00007 [] [m,n,p]
theorem A113:m<n->n<p+1->n-1<p:=Z.R 0x40041040040a81f41f69040001f6a001f690001e907da00007 [] [m,n,p]
theorem A114:m<n->((p<m)/\(m<=q))->¬(n=p):=Z.R 0x1001068aa9044ae802807da800051e907da00007 [] [m,n,p,q]
theorem A115:m<n->n<p+1->((q<m)/\(m<=p))->(q<n)/\(n<=p):=Z.R 0x40001001001001aa902907dac0005aa802807dac00051c1f6a001f690001e907da00007 [] [m,n,p,q]
theorem A116:m<n->((p<m)/\(m<=q))->m-1<n-1:=Z.R 0x100004104000004104100000104000000107da4107d07da01000ae802807da800051e907da00007 [] [m,n,p,q]
theorem A117:m<n+1->((p<q)/\(q<=n))->m-1<n:=Z.R 0x40041001000001a41f41f68040029ac0ac1f6a00014707da4007da00007 [] [m,n,p,q]
theorem A118:m<n->n=p->m<p:=Z.R 0x100106a07da0002aa411e907da00007 [] [m,n,p]
theorem A119:m<n->¬(m=p)->(¬((p<m)/\(m<=q)))->((p<n)/\(n<=q))->m<p:=Z.R 0x4004004100000100004004004000004102a07da0002ba40a41f6a000147a2ba00a01f6a0001441e8aa80441e907da00007 [] [m,n,p,q]
theorem A120:((m<n)/\(n<=p))->q<m->q<n-1:=Z.R 0x41001040040041f69041f6b000a01f6b0001eaa40a41f68000147 [] [m,n,p,q]
theorem A121:((m<n)/\(n<=p))->n-1<p:=Z.R 0x40041040040a81f41f6904002aa40a41f68000147 [] [m,n,p]
theorem A122:m<=n->p<n+1->¬(p=m)->(¬((m<p)/\(p<=n)))->p<n:=Z.R 0x4004004004004004004000104002907da80028a6a02a07da00005107a28a8110707da4007da80007a68007 [] [m,n,p]
theorem A123:(1:Nat)<=m->max m 1=m:=Z.R 0x104004004100004002807da0206807d007 [] [m]
theorem A124:m<n->m+(n-m)=n:=Z.R 0x1040041040001000a68a41a0006907da00007 [] [m,n]
theorem A125:m<=n->¬(m<n)->m=n:=Z.R 0x41001001a68068a41f68000107a68007 [] [m,n]
theorem A126:a<b->b<a->False:=Z.R 0x1068a01f690021e907da00087 [a,b] []
theorem A127: ¬(a<b)->¬(b=a)->b<a:=Z.R 0x104000106807da400a8a290c41e8a41f68002107 [a,b] []
theorem A128:a<=b+1->a<=b-0+1:=Z.R 0x4107d03da41028081f69028087 [a,b] []
theorem A129:a-(b+1)=a-1-b:=Z.R 0x106907da01041f69028043 [a,b] []
theorem A130:a=b->c-1-b+1+a=c:=Z.R 0x104004006aa01f6907da81040003a680c7 [a,b,c] []
theorem A131:a-1-b+1+c=a->d-1-b+1+c=d:=Z.R 0x104004006ba81f6907dac1040003a2a07da41f680410000c7 [a,b,c,d] []
theorem A132:a<b+1->¬(a=b)->a<b:=Z.R 0x41000041a41f68002a29a0310707da4007da00087 [a,b] []
theorem A133:a<b->(0:Int)<=b-1-a:=Z.R 0x41a01f6904103d0a907da00087 [a,b] []
theorem A134:(0:Int)<=a->b-1-a<b:=Z.R 0x41a41f6807da410400a803d087 [a,b] []
theorem A135:a+b=c+1->a+(b-1-d)=c-d:=Z.R 0x104004006ba81ac1f69041a000c1f6a029a000c7 [a,b,c,d] []
theorem A136:a<b->c+(b-1-a)=d-a->e<=c->e<=d-a:=Z.R 0x41001068ac1b02aac087a2b06807da4106a0031e907da00087 [a,b,c,d,e] []
theorem A137:a<=b->a+0<=b:=Z.R 0x41a40f68002a68087 [a,b] []
theorem A138:(0:Int)<a->(0:Int)<=a-1:=Z.R 0x1041f68040f42a01f40f40087 [a] []
theorem A139:a-1<a:=Z.R 0x6807d07da01002 [a] []
theorem A140:((a+b<=c)\/((a+b=c+1)/\(d+b<=e)))->(¬((a+b<=c)\/((a+b=c+1)/\(d+b<=f))))->a+(b-1)=c:=Z.R 0x40040000040000001040040000001040000040040000001000001000041000041000041000041000041000041a81f69068003a2da6b00207da80a6800316aa680021841eca6b00207da80a6800316aa68002187 [a,b,c,d,e,f] []
theorem A141:(¬((a+b<=c)\/((a+b=c+1)/\(d+b<=e))))->a+(b-1)=c->e<=d+(b-1):=Z.R 0x100004000100100000104007da41ac0b02a81f690680031e8b29ac0081f6a029a000c5aa9a00086107 [a,b,c,d,e] []
theorem A142:((a+b<=c)\/((a+b=c+1)/\(d+b<=e)))->a+(b-1)=c->d+(b-1)<e:=Z.R 0x100004000004006c07d07da41ac0002a81f690680031eca6b00207da80a6800316aa68002187 [a,b,c,d,e] []
theorem A143:(0:Int)<a->b<=c->b<=c+(a-1):=Z.R 0x104107da01a80a42aa9087a01f40f40087 [a,b,c] []
theorem A144:a+b<=c->a+(b-1)<c:=Z.R 0x106a07d07da41a00002aa9a00087 [a,b,c] []
theorem A145:a<b->a-c+1+c<=b:=Z.R 0x1069a81f6aa010000a907da00087 [a,b,c] []
theorem A146:(0:Int)<a->a=0->False:=Z.R 0x41a00f680c7a01f40f40087 [a] []
theorem A147:a-b+1+b=a+1:=Z.R 0x1041f6802907da68040003 [a,b] []
theorem A148:a-b+1+b<=a+1:=Z.R 0x41f6802907da68040002 [a,b] []
theorem A149:((a+b=c+1)/\(d+b=e+1))->b=f->c-f+1=a:=Z.R 0x41000000041001000040a01f6da81003b690c707db00a6b00307da80a68003147 [a,b,c,d,e,f] []
theorem A150:((a+b=c+1)/\(d+b=e+1))->b=f->e-f+1<=d:=Z.R 0x1001040000ac1f6db01002b690c707db00a6b00307da80a68003147 [a,b,c,d,e,f] []
theorem A151:((a+b=c+1)/\(d+b<=e))->d+b<=e+1:=Z.R 0x1040001f6c029ac00aca6b00207da80a68003147 [a,b,c,d,e] []
theorem A152:((a+b=c+1)/\(d+b=e+1))->b=f->g+f<=c->g<a:=Z.R 0x41001000040a01f6e002aadb80087b690c707db00a6b00307da80a68003147 [a,b,c,d,e,f,g] []
theorem A153:((a+b=c+1)/\(d+b=e+1))->b=f->((g+f=c+1)/\(h+f<=e))->g=a:=Z.R 0x40040040000001040001001000040a2e0ecb6f00207da80b6e003147b690c707db00a6b00307da80a68003147 [a,b,c,d,e,f,g,h] []
theorem A154:((a+b=c+1)/\(d+b=e+1))->b=f->((g+f=c+1)/\(h+f<=e))->h<=d:=Z.R 0x41000001040000aef0acb6f00207da80b6e003147b690c707db00a6b00307da80a68003147 [a,b,c,d,e,f,g,h] []
theorem A155:a<=b->((c<=d)/\((d<a)/\((e<=f)/\(g=h))))->d<b:=Z.R 0x4000004006907dac00afb83b6c085a01f6b00216ba82147a68087 [a,b,c,d,e,f,g,h] []
theorem A156:a<a+1:=Z.R 0x41f68001f68002 [a] []
theorem A157:((a<=b)/\((b<c)/\((d<=e)/\(f=g))))->b<c+1:=Z.R 0x4000004007da8007da400aeb43b2b085a81f69002169a02147 [a,b,c,d,e,f,g] []
theorem A158: ¬(a=b)->((c<=a)/\((a<b+1)/\((d<=e)/\(f=g))))->a<b:=Z.R 0x40000000040000001001a41f68002bad0ecac2141f69001f68002168a82147a29a03107 [a,b,c,d,e,f,g] []
theorem A159:a<=b->a<=b-1+1:=Z.R 0x1041f41f69040a02a68087 [a,b] []
theorem A160:a<b->a-1<b:=Z.R 0x41a41f41f680400a907da00087 [a,b] []
theorem A161:((a<b)\/(c<=d))->¬((d<=e)/\((e<c)/\((b<=a)/\(f=g)))):=Z.R 0x41040001000068bad0e8a4216a07db00085b2b08512ba82a41f68002187 [a,b,c,d,e,f,g] []
theorem A162:a+((0:Nat):Int)=b->a=b:=Z.R 0x41001001a680e9a00f44a000c7 [a,b] []
theorem A163:a+((m+1:Nat):Int)=b->a<b:=Z.R 0x4006907da000a9a01f68004a000c7 [a,b] [m]
theorem A164:a+((m+1:Nat):Int)=b->a+1+((m:Nat):Int)=b:=Z.R 0x1040040069a28101f680000e9a01f68004a000c7 [a,b] [m]
theorem A165:(0:Int)<=a->((-1000000):Int)<a:=Z.R 0x106807da1ec3283d1400a803d087 [a] []
theorem A166:a<((m:Nat):Int)->m<1000000->a<1000000:=Z.R 0x10417b0ca0f41f680027b0ca0f41f680001e8a0407da00087 [a] [m]
theorem A167:a<=b->b+1+((m:Nat):Int)<=((n:Nat):Int)->a+((m+1:Nat):Int)<=((n:Nat):Int):=Z.R 0x41068a44a01f68004a000a8a44a28101f69000087a68087 [a,b] [m,n]
theorem A168:a<=b->a+((Int.toNat (b-a):Nat):Int)=b:=Z.R 0x1040040041000040029a28a29044128003a68087 [a,b] []
theorem A169:a<b->a<=b-1:=Z.R 0x1041f690680a907da00087 [a,b] []
theorem A170:a+b<=c->a-1+(b+1)<=c:=Z.R 0x106a07da4007da01002aa9a00087 [a,b,c] []
theorem A171:(0:Int)<=a->(0:Int)<=a+1:=Z.R 0x4107da0003d0a803d087 [a] []
theorem A172:(0:Int)<=a->(0:Int)<a+1:=Z.R 0x1041f68001f40f400a803d087 [a] []
theorem A173:(0:Int)<=a->¬(a=0)->(0:Int)<=a-1:=Z.R 0x41041001f68040f42a00f680c41e803d087 [a] []
theorem A174:a<b+1->a-1<b:=Z.R 0x106907d07da0100207da4007da00087 [a,b] []
theorem A175:a-1+b=a+(b-1):=Z.R 0x1041f6906802907da01003 [a,b] []
theorem A176:a<=b->a<=b:=Z.R 0x1069a02a68087 [a,b] []
theorem A177:a+b<c->a+(b+1)<=c:=Z.R 0x106a07da40a000aa07da68000087 [a,b,c] []
theorem A178:(0:Int)<=a->a<b->(0:Int)<=b-1:=Z.R 0x41041f69040f42a41f680021e803d087 [a,b] []
theorem A179:a+b<=c->(0:Int)<=b->c<=((m:Nat):Int)->a-1<((m:Nat):Int):=Z.R 0x41041a28101f41f680400a8a04a821e903d087aa9a00087 [a,b,c] [m]
theorem A180:a<=b->(0:Int)<=c->(0:Int)<=a->(0:Int)<=b+c:=Z.R 0x41041aa9000f42a00f421ea03d087a68087 [a,b,c] []
theorem A181:a<=((m:Nat):Int)->b+c<a->b+c<((m:Nat):Int):=Z.R 0x41068a0407daa90000a807daa9000087a28128087 [a,b,c] [m]
theorem A182:m<200->¬((200:Int)<=((m:Nat):Int)):=Z.R 0x41a28a041a8f42106a3d07da00007 [] [m]
theorem A183:(0:Int)<a->b<=c->c+a<=d->m<=2*(Int.toNat (c-b))+1+n->p<=2*(Int.toNat (d-(c+a)))+1+m->q=2*(Int.toNat (d-b))+1+n->p+1<=q:=Z.R 0x400000010410410000400400820800000400000010410410000400400020800000400000410010410000400400800800000400000410010410000400400000ab07da8002907da29ac1102f8002b047a01f68a2a02b0440be000a801e907da29a81102f80028007ae8a80087aa9087a01f40f40087 [a,b,c,d] [m,n,p,q]
theorem A184:m+n<=1000->p<=n->p<1000000:=Z.R 0x10417b0ca0f41f6a000a6a0077e8f69a00007 [] [m,n,p]
theorem A185:m<=n->(1:Nat)<=p->m=p+q->q<n:=Z.R 0x4100106907dac002ba80a011ea07d007a68007 [] [m,n,p,q]
theorem A186:m+n<=1000->n=p+q->m+q<=1000:=Z.R 0x104005fa3dae8000aea0290477e8f69a00007 [] [m,n,p,q]
theorem A187: ¬(a=0)->(0:Int)<=a->(0:Int)<a:=Z.R 0x4104006807d03d002a00f421e803da03107 [a] []
theorem A188:m+n<=1000->m<1000000:=Z.R 0x417b0ca0f41f680007e8f69a00007 [] [m,n]
theorem A189:m+n<=1000->p+1<=n->m+1+p<=1000:=Z.R 0x4105fa3da81f6800002907da800077e8f69a00007 [] [m,n,p]
theorem A190:m+(n+1)<=1000->m+n<=1000:=Z.R 0x417e8f69a0001fa3d07da40a00007 [] [m,n]
theorem A191:m+(n+1)<=1000->m<1000000:=Z.R 0x105ec3283d07da0001fa3d07da40a00007 [] [m,n]
theorem A192:m+(n+1)<=1000->m+1+n<=1000:=Z.R 0x105fa3da41f6800001fa3d07da40a00007 [] [m,n]
theorem A193:m+0<=1000->m<999999:=Z.R 0x105ec31ffd07da0001fa3d03da00007 [] [m]
theorem A194:m+n<=1000->p<=1->q=m+p->q+1<1000000:=Z.R 0x10010417b0ca0f41f41f6b00002aa00ac11c1f6a0077e8f69a00007 [] [m,n,p,q]
theorem A197:m+(2*(n+1))<=100000->m<999999:=Z.R 0x105ec31ffd07da0000387583d07da400bea00007 [] [m,n]
theorem A198:m+(2*(n+1))<=100000->p<=1->q<=1->m+(p+q)+(2*n)<=100000:=Z.R 0x410410e1d60f690beaea028000001f6b00707da801c387583d07da400bea00007 [] [m,n,p,q]
theorem A199:m<=2*n->p<=1->q<=1->p+(q+m)<=2*(n+1):=Z.R 0x4104107da400bea2b02a00007dac01c1f6a007a42fa8007 [] [m,n,p,q]
theorem A200:m<=1000->0+(2*m)<=100000:=Z.R 0x420e1d60f680be03d0007e8f68007 [] [m]
theorem A201:a<=b->b+c+((m:Nat):Int)<=((n:Nat):Int)->(0:Int)<c->a+((m+1:Nat):Int)<=((n:Nat):Int):=Z.R 0x41041a2912807da00128002a81f40f40087a29128a04aa9000087a68087 [a,b,c] [m,n]
theorem A202:0+((m:Nat):Int)<=((n:Nat):Int)->m<=n:=Z.R 0x41a68028a44a28100f40087 [] [m,n]
theorem A203:a+(b-a)=b:=Z.R 0x1069a29068003 [a,b] []
theorem A204: ¬(((m+1+1:Nat):Int)=1):=Z.R 0x1a01f6807d07da000040c4 [] [m]
theorem A205:m+0<=1000->m<1000000:=Z.R 0x105ec3283d07da0001fa3d03da00007 [] [m]
theorem A206:m<=900->1+(m-n)<=1000:=Z.R 0x400010017e8f69a0107d000724f68007 [] [m,n]
theorem A211:(-1)+((m+1:Nat):Int)=((m:Nat):Int):=Z.R 0x1068a04a01f68004a01f45003 [] [m]
theorem A212:((m:Nat):Int)<((m+1:Nat):Int):=Z.R 0x6807da00101f68a04002 [] [m]
theorem A213:(0:Int)<((m+1:Nat):Int):=Z.R 0x1a01f6800407d03d002 [] [m]
theorem A214:a+b-a=b:=Z.R 0x1069a29a00043 [a,b] []
theorem A215:(0:Int)<=a->¬(a+a<min b (c+a)-c):=Z.R 0x1041040068aa8a80a43041f68a0000212803d087 [a,b,c] []
theorem A219:(0:Int)<=a->¬(a+a<b-(max c (b-a))):=Z.R 0x1001041068a2906a0a9041f68a0000212803d087 [a,b,c] []
theorem A264:((-1000000):Int)<((m:Nat):Int):=Z.R 0x1a28101f687b0ca0f45002 [] [m]
theorem A265:m<100000->n<m->((n:Nat):Int)<1000000:=Z.R 0x10417b0ca0f41f68a44002a01f690001c387583d07da00007 [] [m,n]
theorem A266:m<n->((m:Nat):Int)<((n:Nat):Int):=Z.R 0x1068a4407da281000a907da00007 [] [m,n]
theorem A309:m<64->n<=p+1->p<=m->q<=2*(n+1)->q<=200:=Z.R 0x10420821a8f6b001f69002fab007a2a00707da80a401c283d07da00007 [] [m,n,p,q]
theorem A310:m<=200->m<1000000:=Z.R 0x417b0ca0f41f680001a8f68007 [] [m]
theorem A311:m<=201->0+m<=1000:=Z.R 0x417e8f6803d0001a9f68007 [] [m]
theorem AF0:(-(1000000:Int))<a->b<(1000000:Int)->(Int.toNat (a-b))<(2000000:Nat)->(((((-(9223372036854775808:Int))<=a)/\(a<(9223372036854775808:Int)))/\(((-(9223372036854775808:Int))<=b)/\(b<(9223372036854775808:Int))))/\(((-(9223372036854775808:Int))<=(max (a-b) (0:Int)))/\((max (a-b) (0:Int))<(9223372036854775808:Int))))/\(((max (a-b) (0:Int))=(0:Int))\/(((-(9223372036854775808:Int))<=b)/\(b<(9223372036854775808:Int)))):=Z.R 0x40000000001000000000040000000001000000000041000000001040000000040001000001000040001000000001000040001000000001000001041000040040040041001040040000040040000000001000000000040000000001000000000040001000001000040001000000040040001000041000000001001000001000000001000001041000040041000041040040040000048820820820820820820f41f69002a6822082082082082082083d142140f40f69a01083188820820820820820820f41f40f69a01080080f69a010a822082082082082082083d142148820820820820820820f41f69002a6822082082082082082083d142148820820820820820820f41f68002a2822082082082082082083d14214514507d86483d07da29a011000077b0ca0f41f690021e807da1ec3283d140087 [a,b] []
theorem AF1:a<(1000000:Int)->(-(1000000:Int))<b->(Int.toNat (a-b))<(2000000:Nat):=Z.R 0x1000001001041f61920f41f68a68044000a41f687b0ca0f450021dec3283d07da00087 [a,b] []
end
section
variable {a b c d e f g h i j k l:Int}{m n p q r s t u v w x y:Nat}
theorem Yc0:m<10000->n=p->p+(q+1)=m->n<1000000:=Z.R 0x100100105ec3283d07da4002807dac0a80047aa9047278c3d07da00007 [] [m,n,p,q]
theorem Yc1:m+64+(n+1)<p->m<p:=Z.R 0x41a81f68000a81f41f6900283da00000007 [] [m,n,p]
theorem Yc2:m+64+(n+1)<p->m+1+64+n<p:=Z.R 0x106a07da4283d07da00000000a81f41f6900283da00000007 [] [m,n,p]
theorem Yc3:m=n+(p+1)->n+1<=m:=Z.R 0x4102807da40001f6a029028047 [] [m,n,p]
theorem Yc4:m+1+64+n<p->m+1+64<p:=Z.R 0x106a07d0a0f41f68000000a81f690a0f41f68000000007 [] [m,n,p]
theorem Yc5:m<=n->n=m+(n-m):=Z.R 0x1001041001000040028a41a00a41a68007 [] [m,n]
theorem Yc6:m+64+n<p->m+64<p:=Z.R 0x106a07d0a0f6800002a07da4283da00000007 [] [m,n,p]
theorem Yc7:m<n->m<=n-1:=Z.R 0x1041040041f6906802907da00007 [] [m,n]
theorem Yc8:0<m->n<=m-1->n<m:=Z.R 0x104004104002807da40001f68069007a01f40f40007 [] [m,n]
theorem Yc9:m+40*n<=8000->m+1+64+5<9900:=Z.R 0x1049d6cf41f45f4283d07da000000001fa83da41a3ea00007 [] [m,n]
theorem Yc10:0<m->0+1+(m-1)=m:=Z.R 0x41001001040001000a01f68041f40f40001a01f40f40007 [] [m]
theorem Yc11:m+1+(n+1)=p->m+1+1+n=p:=Z.R 0x104004006aa41f41f68000001a81f69001f68000047 [] [m,n,p]
theorem Yc12:m+1+(n+1)=p->m+1<p:=Z.R 0x4006a07d07da00000a81f69001f68000047 [] [m,n,p]
theorem Yc13:m+n<p->m+n<=p:=Z.R 0x41aa9a0002a07da68000007 [] [m,n,p]
theorem Yc14:m+(n+1)<=p->m+n<p:=Z.R 0x106a07da6800002a07da40a00007 [] [m,n,p]
theorem Yc15:0<a->¬b+b<a->¬a<b+b->min b c+(d+a)=min b c+d+min b a+min b a:=Z.R 0x1000000040001000000001000080000040040080000040040002000040040002000040040002000040040002000040041000040040001000001001000080000040040080000040040002000040040002000040040002000040040002000040041000040040001000001001000080000040040080000040040002000040040002000040040002000040040002000040041000000040001000000001000080000040040080000040040002000040040002000040040002000040040002000040068a43a290ebaa90c0000a2b02aa43003a29a4007da000841e8a01f69a40002107a01f40f40087 [a,b,c,d] []
theorem Yc16:0<a->a<b+b->min b c+(d+a)<min b c+d+min b a+min b a:=Z.R 0x1000000040080000001042000000041040000000041000001040080000081042000002041040000040041000001040080000081042000002041040000040041000000040080000001042000000041040000000068a43a290ebaa90c000007da2b02aa430000a9a4007da00087a01f40f40087 [a,b,c,d] []
theorem Yc17:m<=n+1->¬m<=n->m=n+1:=Z.R 0x1040040041f69028068a680041c1f69028007 [] [m,n]
theorem Yc18:min a b+c=d/\m<n+1->min a b+(c+e)=d+e:=Z.R 0x100004000100000100100004004104000100100004004104000100100004000100000102cac0b2a029a0300307da4007da0002baa9a03003147 [a,b,c,d,e] [m,n]
theorem Yc19:min a b+c<d->min a b+(c+e)<d+e:=Z.R 0x100100104100104100100102cac007db2a029a030000ab07daa9a03000087 [a,b,c,d,e] []
theorem Yc20:min a b+c+d=min a b+(c+d):=Z.R 0x100004000104004004104004004100004002ba80a680c0aeaa680c0003 [a,b,c,d] []
theorem Yc21:a+a<b->min a c+d<=e->min a c+(d+(a+a))<e+b:=Z.R 0x1001001041040041041001040040069b0007da2802b02aa030000acaeaa030021e907da28000087 [a,b,c,d,e] []
theorem Yc22:m<=n+1->¬m=n+1->m<=n:=Z.R 0x1040001069a00a01f690280441c1f69028007 [] [m,n]
theorem Yc23:0<a->b+b<a->min b c+d+min b a+min b a=min b c+(d+(b+b)):=Z.R 0x40000000001000000000041000000001000001000000080001040002000041000080001040002000041000002001040000080041000002001040000080041000002001040000080041000002001040000080041041000000001000001000040000000001000000000000080001040002000041000080001040002000041000002001040000080041000002001040000080041000002001040000080041000002001040000080041a6902b02aa43028a43a290ebaa90c00000e807da69000087a01f40f40087 [a,b,c,d] []
theorem Yc24:(0:Int)+min a b+(0:Int)=min a b+(0:Int):=Z.R 0x4000100004100100104100100104000100003da680c003da680c0f40003 [a,b] []
theorem Yc25:a+min b c+(d+e)=a+min b c+d+e:=Z.R 0x100004000104004004104004004100004002caeaa43a00000b2b02aa43a00003 [a,b,c,d,e] []
theorem Yc26:m<=n->m+1+(n-m)=n+1:=Z.R 0x1040040041000040001f69028a4107da00001a68007 [] [m,n]
theorem Yc27:m<=n->n+1-m=n-m+1:=Z.R 0x1040001040001040001041000041040001000001000001f68a4102807da40041a68007 [] [m,n]
theorem Yc28:0<=a->¬a=0->0<a:=Z.R 0x4104102807d03d002a00f680c41e803d087 [a] []
theorem Yc29:a=0->¬0<a:=Z.R 0x1001a2807d03d002100f680c7 [a] []
theorem Yc30:a+b-b=a:=Z.R 0x1068a69a00043 [a,b] []
theorem Yc31:m<=n->m+(n+1-m)=n+1:=Z.R 0x41001041000040001f6902807da40068001a68007 [] [m,n]
theorem Yc32:m<=n->n+1+1-m=n+1-m+1:=Z.R 0x1040001040001040001040040040040041000001000001f6807da40040a01f41f69000041a68007 [] [m,n]
theorem Yc33:min (a+b) (a+c)=a+min c b:=Z.R 0x1040040041000040001000040001040040069a83a00aa8029a000c3 [a,b,c] []
theorem Yc34:max a (a+b-c)=a+b-min c b:=Z.R 0x1000040001001041001001041001000040029a83a68001aa9a00068083 [a,b,c] []
theorem Yc35:m+1+(n+1)=m+1+1+n:=Z.R 0x106907d07da0000007da4007da00001 [] [m,n]
theorem Yc37:m+n<=p->m<=p:=Z.R 0x106aa00aa9a00007 [] [m,n,p]
theorem Yc38:m+(n+1)<=p->m+n<=p:=Z.R 0x41aa9a0002a07da40a00007 [] [m,n,p]
theorem Yc39:m+(n+1)<=p->m+1+n<=p:=Z.R 0x106aa41f6800002a07da40a00007 [] [m,n,p]
theorem Yc40:m<1000->n+(p+1)<=m->n<1000:=Z.R 0x10417e8f41f69000a01f6a0290001dfa3d07da00007 [] [m,n,p]
theorem Yc41:m<1000->m<1000000:=Z.R 0x105ec3283d07da0001fa3d07da00007 [] [m]
theorem Yc42:m<900->m+1<1000:=Z.R 0x417e8f41f41f6800001c93d07da00007 [] [m]
theorem Yc43:m<900->m<1000:=Z.R 0x105fa3d07da0001c93d07da00007 [] [m]
theorem Yc44:m<1000->m+1<1000000:=Z.R 0x417b0ca0f41f41f6800001fa3d07da00007 [] [m]
theorem Yc45:m<1000->n+p=m->n<1000:=Z.R 0x100105fa3d07da40028aa90011dfa3d07da00007 [] [m,n,p]
theorem Yc46:m<=n->n<1000->p<=2*(m-q)->p<10000:=Z.R 0x41000001040082278c3d07da8002ba010bea801dfa3d07da40007a68007 [] [m,n,p,q]
theorem Yc47:m<n->n<=p->n-1<p:=Z.R 0x40041040040a81f41f6904002aa401e907da00007 [] [m,n,p]
theorem Yc48:m<n->((n-(1:Nat):Nat):Int)=(n:Int)-1:=Z.R 0x4100100104000100007da29101a01f690440e907da00007 [] [m,n]
theorem Yc49:(m:Int)=((n+p:Nat):Int)->p=m-n:=Z.R 0x1000001041001000041001029a01a81a2aa40128a040c7 [] [m,n,p]
theorem Yc50:m<n->(m:Int)+((n-m:Nat):Int)=n:=Z.R 0x1040041040001000a29128a29044a281000e907da00007 [] [m,n]
theorem Yc51:m<=n->n<1000->m<100000:=Z.R 0x4104387583d07da0001fa3d07da40007a68007 [] [m,n]
theorem Yc52:Int.toNat (((m:Nat):Int)-((n:Nat):Int))=m-n:=Z.R 0x1000040001001041001001041001000040029a01a28a44a28101101 [] [m,n]
theorem Yc53:m<100000->(m:Int)<1000000:=Z.R 0x105ec3283d07da2810008387583d07da00007 [] [m]
theorem Yc54:-1000000<(m:Int):=Z.R 0x1a28101f687b0ca0f45002 [] [m]
theorem Yc55:m<=n->n<100000->(m:Int)<1000000:=Z.R 0x4105ec3283d07da2810008387583d07da40007a68007 [] [m,n]
theorem Yc56:m<=n->n<1000->p+q<m->r<=2*q->r<9000:=Z.R 0x41082088e68f41f6c000ac2fac007a01f6ba800001dfa3d07da40007a68007 [] [m,n,p,q,r]
theorem Yc57:m<=n->n<1000->p+q<m->r<=2*q->r+1<9000:=Z.R 0x1042082239a3d07d07db00000ac2fac007a01f6ba800001dfa3d07da40007a68007 [] [m,n,p,q,r]
theorem Yc58:m<=n->n<1000->p+q<m->r<=2*q->r<10000:=Z.R 0x41082089e30f41f6c000ac2fac007a01f6ba800001dfa3d07da40007a68007 [] [m,n,p,q,r]
theorem Yc59:m<=n->p+q<m->p+q<=n:=Z.R 0x1041a6ba8002807daea000007a68007 [] [m,n,p,q]
theorem Yc60:((m+n:Nat):Int)+(1:Int)=((m+(n+(1:Nat)):Nat):Int):=Z.R 0x106807da40a00101f68a68004003 [] [m,n]
theorem Yc61:m<9000->m<10000:=Z.R 0x1049e30f41f68000239a3d07da00007 [] [m]
theorem Yc62:¬m<m+n->¬(m:Int)<((m+n:Nat):Int):=Z.R 0x1068a29a00101f68a04002128a68001f68000107 [] [m,n]
theorem Yc63:m<m+n->(m:Int)<((m+n:Nat):Int):=Z.R 0x1068a6800407da281000a9a0007da00007 [] [m,n]
theorem Yc64:m<=n->p+q<m->p+q<n:=Z.R 0x4106907daea00002807daea000007a68007 [] [m,n,p,q]
theorem Yc65:((m+n:Nat):Int)<(p:Int)->m+n<p:=Z.R 0x106a07da68000028a8407da29a00100087 [] [m,n,p]
theorem Yc66:m<=2*n->p<=1->m+(p+1)<=2*(n+1):=Z.R 0x104107da400be07da80a00001f6a007a42fa8007 [] [m,n,p]
theorem Yc67:m<=n->p=n+1->m<p:=Z.R 0x104006a07da00001f6902a047a68007 [] [m,n,p]
theorem Yc68:m<1000->n=m+1->n<100000:=Z.R 0x400410e1d60f41f6900007da00a411dfa3d07da00007 [] [m,n]
theorem Yc69:m<1000->m<100000:=Z.R 0x104387583d07da0001fa3d07da00007 [] [m]
theorem Yc70:m<=n->m<=n+1:=Z.R 0x4107da40a00a68007 [] [m,n]
theorem Yc71:m=n+1->p<=n->¬p=m:=Z.R 0x1001040a28a81129a801c1f69028047 [] [m,n,p]
theorem Yc72:a<b->¬b<a:=Z.R 0x1068a01f6900212907da00087 [a,b] []
theorem Yc73:a=b->b<a->False:=Z.R 0x1001a2807da40087a680c7 [a,b] []
theorem Yc74:a=b->a<b->False:=Z.R 0x1040a2907da00087a680c7 [a,b] []
theorem Yc75:m<n->n<p->m+1+(n-1-m)<=p:=Z.R 0x100004104000104100004104000102aa01f6904107da00000a81f690001e907da00007 [] [m,n,p]
theorem Yc76:m-(n+1)=m-1-n:=Z.R 0x100000100000100000104000100000100000100004104000100004104100100004100100100004104000100000100002907da01041f69028041 [] [m,n]
theorem Yc77:Int.toNat ((m:Nat):Int)=m:=Z.R 0x1041001001028a28a04101 [] [m]
theorem Yc78:Int.toNat (((m:Nat):Int)+(1:Int))=m+1:=Z.R 0x1041001001001f6802807da28100101 [] [m]
theorem Yc79:m<n->(m:Int)<=n:=Z.R 0x41a29128a040a907da00007 [] [m,n]
theorem Yc80:m<n->(m:Int)+1<=n:=Z.R 0x1068a4407da281000a907da00007 [] [m,n]
theorem Yc81:0<=(m:Int)+1:=Z.R 0x41f68a04000f42 [] [m]
theorem Yc82:m<n->n<p->m<p:=Z.R 0x1041a81f68000a81f690001e907da00007 [] [m,n,p]
theorem Yc83:m<n+1->¬m=n->m<n:=Z.R 0x41000041a41f68000a29a0110707da4007da00007 [] [m,n]
theorem Yc84:m<1->m=0:=Z.R 0x4004103da0107d07da00007 [] [m]
theorem Yc85:1<=m->m=m-1+1:=Z.R 0x4004104004000100007d07da0102806807d007 [] [m]
theorem Yc86:(m:Int)=n->n=m:=Z.R 0x1001041028a41a29128a040c7 [] [m,n]
theorem Yc87:1<=m->n=m->1+((n-(1:Nat):Nat):Int)=(n:Int):=Z.R 0x41000001001001040000001000000a2912807da4112807d1000e8a411e807d007 [] [m,n]
theorem Yc88:m<1000->n=m->n<100000:=Z.R 0x100104387583d07da40028a411dfa3d07da00007 [] [m,n]
theorem Yc89:1<=m->n=m->1<=n:=Z.R 0x104006907d028a411e807d007 [] [m,n]
theorem Yc90:m<=n->m<n+1:=Z.R 0x1041f69001f68000a68007 [] [m,n]
theorem Yc91:1<=m+1+1:=Z.R 0x107d07da00001f40 [] [m]
theorem Yc92:((m+(1:Nat):Nat):Int)+(1:Int)=((m+(1:Nat)+(1:Nat):Nat):Int):=Z.R 0x106807d07da0000407da01f68004003 [] [m]
theorem Yc93:m+1<n->p<=m->p+1<n:=Z.R 0x4106907d07da80000a2a007a41f41f68000007 [] [m,n,p]
theorem Yc94:m<1000->n+1<m->n+1<1000000:=Z.R 0x10417b0ca0f41f41f6900002807d07da400001dfa3d07da00007 [] [m,n]
theorem Yc95:0+((Int.toNat ((m:Nat):Int):Nat):Int)=(m:Int):=Z.R 0x41040040040a28128a28a0410403d003 [] [m]
theorem Yc96:m<1000->n<m->p<n->p<1000:=Z.R 0x104105fa3d07da8002907da80007a01f690001dfa3d07da00007 [] [m,n,p]
theorem Yc97:m<1000->n<m->-1000000<(n:Int)/\(n:Int)<1000000:=Z.R 0x104104001ec3283d07da291000a8a4407da1ec3283d140085a01f690001dfa3d07da00007 [] [m,n]
theorem Yc98:(m:Int)<n->m<n:=Z.R 0x106907da00028a4407da28100087 [] [m,n]
theorem Yc99:m<=n->m+1<=n+1:=Z.R 0x1041f69001f68000a68007 [] [m,n]
theorem Yc100:min a b+c=d/\m<n+1->(m:Int)<n+1:=Z.R 0x1040000041000001f68a44001f68a0400207da4007da0002baa9a03003147 [a,b,c,d] [m,n]
theorem Yc101:min a b+c=d/\m<n+1->min a b+c+min a e=d+min a e:=Z.R 0x100000004000100000000100104000004000100100000100104000004000100100000100100000004000100000000100100000004004100004000100104000004004100104000100104000004004100104000100100000004004100004000100100000004004100004000100104000004004100104000100104000004004100104000100100000004004100004000100100000004000100000000100104000004000100100000100104000004000100100000100100000004000100000000102ca03ac0b280eaa680c000307da4007da0002baa9a03003147 [a,b,c,d,e] [m,n]
theorem Yc102:min a b+c<d->min a b+c+min a e<d+min a e:=Z.R 0x100000100100100100100100100100000100100004100100104100100104100100004100100004100100104100100104100100004100100000100100100100100100100100000102ca03ac007db280eaa680c00000ab07daa9a03000087 [a,b,c,d,e] []
theorem Yc103:(m:Int)+1=((m+(1:Nat):Nat):Int):=Z.R 0x106807da00101f68a04003 [] [m]
theorem Yc104:a+(min b c+d+min b e)=a+min b c+d+min b e:=Z.R 0x100000004000000104000004000100100100004000004104100004000104104000004000100100000004000000104100004000104100100004000004100100004000004104100004000104100000004000000104000004000100104100004000104100100004000004104000004000100100000004000002ca43aeaa43a00000b290ebaa90c0028003 [a,b,c,d,e] []
theorem Yc105:m<1000->n<m->p<n->p<1000000:=Z.R 0x104105ec3283d07da8002907da80007a01f690001dfa3d07da00007 [] [m,n,p]
theorem Yc106:m<1000->n<m->n<100000:=Z.R 0x10410e1d60f41f69000a01f690001dfa3d07da00007 [] [m,n]
theorem Yc107:a<=63*200->b<=a->b<=100000:=Z.R 0x10410e1d60f690a8a421c6a3d07ffa8087 [a,b] []
theorem Yc108:a<=63*200->b<=0+a->b<=100000:=Z.R 0x4104387583da42a00f40a421c6a3d07ffa8087 [a,b] []
theorem Yc109:m<=200->n<=m->n<=200:=Z.R 0x41046a3da40a290071a8f68007 [] [m,n]
theorem Yc110:m<=63->0<=a/\a<=m->0<=a/\a<=63:=Z.R 0x104004100102807ff44a02a00f42168a04a02a00f4214707ff68007 [a] [m]
theorem Yc111:a<=b->a<=b+m:=Z.R 0x1068a04a40a02a68087 [a,b] [m]
theorem Yc112:0<=a/\a<=m->b<=c+a+d->b<=c+(d+m):=Z.R 0x41040a2812b02a0290aba2a000a421e8a04a02a00f42147 [a,b,c,d] [m]
theorem Yc113:0<=a->0<=b/\b<=m->0<=a+b:=Z.R 0x40041a68000f42a281290a903d0851e803d087 [a,b] [m]
theorem Yc114:0<=a/\a<=m->b<=a+c->b<=c+m:=Z.R 0x41040a2812a0290aaa00a421e8a04a02a00f42147 [a,b,c] [m]
theorem Yc115:0<=a->b<=b+(a+m):=Z.R 0x41a281280290290a803d087 [a,b] [m]
theorem Yc116:0<=a->a+b<=m->b<=m:=Z.R 0x1041a281290a8a04a680021e803d087 [a,b] [m]
theorem Yc117:0<a->0<=a:=Z.R 0x41a00f42a01f40f40087 [a] []
theorem Yc118:m<=63->n<=m->n<=63:=Z.R 0x41041ffda40a2900707ff68007 [] [m,n]
theorem Yc119:m<=63->m<1000:=Z.R 0x417e8f41f6800007ff68007 [] [m]
theorem Yc120:m=n->¬3<(m:Int)->n+8<=63:=Z.R 0x4104007ff48f69000a28a0407d0fd002107a68047 [] [m,n]
theorem Yc121:m=n->¬3<(m:Int)->n+8<1000000:=Z.R 0x104101ec3283d07d23da40000a28a0407d0fd002107a68047 [] [m,n]
theorem Yc122:m<=63->m<100000:=Z.R 0x410e1d60f41f6800007ff68007 [] [m]
theorem Yc123:m<=200->m<1000:=Z.R 0x417e8f41f680001a8f68007 [] [m]
theorem Yc124:m<=200->n<=m->n<100000:=Z.R 0x10410e1d60f41f69000a290071a8f68007 [] [m,n]
theorem Yc125:m=n+1->1<=m:=Z.R 0x4102807d001f69028047 [] [m,n]
theorem Yc126:m<=200->n=m+1->n<1000:=Z.R 0x100105fa3d07da40001f680290471a8f68007 [] [m,n]
theorem Yc127:m+1+1<n+1->m+1<n:=Z.R 0x106907d07da0000007da4007d07d07da00000007 [] [m,n]
theorem Yc128:m+1+1<n+1->m<n:=Z.R 0x41a41f6800007da4007d07d07da00000007 [] [m,n]
theorem aCj:((m<n)/\(n<=p))->(m<n)/\(n<=(p+(1:Nat))):=Z.R 0x4100100107da80a40a41f6800016aa40a41f68000147 [] [m,n,p]
theorem Yc130:a-((m+(1:Nat):Nat):Int)=b->a+(-1)-m=b:=Z.R 0x1040040069a2812807d1680010e9a01f68004a010c7 [a,b] [m]
theorem Yc131:a-((m+(1:Nat):Nat):Int)=b->b<a:=Z.R 0x4102807da400a9a01f68004a010c7 [a,b] [m]
theorem Yc132:a-0=b->a=b:=Z.R 0x41001001a680e9a00f44a010c7 [a,b] []
theorem Yc133:m<=63->n<=m->n<64:=Z.R 0x10410a0f41f69000a2900707ff68007 [] [m,n]
theorem Yc134:m<=63->m<200:=Z.R 0x411a8f41f6800007ff68007 [] [m]
theorem vX:m<=(63:Nat)->m<(1000000:Nat):=Z.R 0x417b0ca0f41f6800007ff68007 [] [m]
theorem Yc136:m<=200->m<900:=Z.R 0x41724f41f680001a8f68007 [] [m]
theorem Yc137:0<=a->a+1-((Int.toNat (a+(2:Int)):Nat):Int)=-1:=Z.R 0x4100104100004002807d168a02f68004101f680010e803d087 [a] []
theorem Yc138:a+1-(-1)=a+2:=Z.R 0x410bda00a01f4507da00043 [a] []
theorem Yc139:a<=100000->a+1<1000000:=Z.R 0x105ec3283d07d07da000020e1d60f68087 [a] []
theorem Yc140:0<=a->-1000000<a+1:=Z.R 0x4107da0007da1ec3283d1400a803d087 [a] []
theorem Yc141:m=n+1->0<m:=Z.R 0x1040a01f40f40001f69028047 [] [m,n]
theorem Yc142:a<=b+(-1)->min a b=a:=Z.R 0x40001000001040041a29a030e807d169028087 [a,b] []
theorem Yc143:0<=a->a<=b+(-1)->0<=b:=Z.R 0x1041a40f42a01f45a40a021e803d087 [a,b] []
theorem Yc144:a<=b+(-1)->a<=b:=Z.R 0x41a680a807d169028087 [a,b] []
theorem aCi:(-(1:Int))<a->(0:Int)<=a:=Z.R 0x41a00f42a01f6807d140087 [a] []
theorem Yc146:0<a->0<=0+a:=Z.R 0x106803d000f42a01f40f40087 [a] []
theorem Yc147:m<=63->m<64:=Z.R 0x410a0f41f6800007ff68007 [] [m]
end
section
set_option genCtorIdx true in
inductive V where
 |none |bool (b:Bool) |int (i:Int) |str (s:Str)
 |tup (vs:List V) |mat (i j k:Int)
 |ref (n:Nat) |dget (n:Nat) |scon (n:Nat) |rng (a b c:Int) |raw (a:Addr)
 deriving Inhabited
inductive Gn where
 |fresh (lo:Str->Option V)
 |loop (it:Nat) (lo:Str->Option V)
 |last (lo:Str->Option V)
 |run
 |fin
 deriving Inhabited
set_option genCtorIdx true in
inductive MO where
 |list (vs:List V) |ro (vs:List V)
 |dict (n:Nat) (f:Int->Option V) |eset
 |inst (fs:Str->Option V)
 |gen (g:Gn)
 |itr (o:Option (Nat×Nat))
 deriving Inhabited
noncomputable abbrev MH:=List MO
structure Lc where
 a:Addr
 d:Addr
 g:Option Nat:=none
def Lc.has(l:Lc)(b:Addr):Prop:=b=l.a\/b=l.d
def Own(ρ:List Lc)(b:Addr):Prop:=∃ l∈ρ,l.has b
def aV(o:Obj):Prop:=match o.data with
 | .seq _ _=>o.cls≠ .type "list"
 | .fields _=>o.cls= .type "builtin_function_or_method" \/o.cls= .type "range"
 |_=>False
def Imm(h h':Heap):Prop:=∀ b o,h.get? b=some o->aV o->h'.get? b=some o
theorem Imm.refl(h:Heap):Imm h h:=λ_ _ e _=>e
theorem Imm.trans{h1 h2 h3:Heap}(a:Imm h1 h2)(b:Imm h2 h3):Imm h1 h3:=λx o e i=>b x o (a x o e i) i
noncomputable abbrev aE:Addr:=135
noncomputable abbrev dJ:Addr:=242
mutual
inductive VR(ρ:List Lc)(h:Heap):Value->V->Prop
 |none:VR ρ h .none .none
 |bool (b:_):VR ρ h (.bool b) (.bool b)
 |int (i t:_):VR ρ h (.int i t) (.int i)
 |str (s t:_):VR ρ h (.str s t) (.str s)
 |tup {a xs n vs:_}:h.get? a=some {cls:=.type "tuple",data:=.seq xs n}->VRs ρ h xs.toList vs->VR ρ h (.ref a) (.tup vs)
 |mat {a n i j k t u v dd:_}:h.get? a=some {cls:=.ref aE,dict:=dd,data:=.seq #[.int i t,.int j u,.int k v] n}->VR ρ h (.ref a) (.mat i j k)
 |ref {n l:_}:ρ[n]? =some l->VR ρ h (.ref l.a) (.ref n)
 |dget {a n l:_}:ρ[n]? =some l->h.get? a=some {cls:=.type "builtin_function_or_method",data:=.fields #[.builtin "dict.get",.ref l.a]}->VR ρ h (.ref a) (.dget n)
 |scon {a n l:_}:ρ[n]? =some l->h.get? a=some {cls:=.type "builtin_function_or_method",data:=.fields #[.builtin "set.__contains__",.ref l.a]}->VR ρ h (.ref a) (.scon n)
 |rng {a i j k t u v:_}:IsRange h a i j k t u v->VR ρ h (.ref a) (.rng i j k)
 |raw (a:_):VR ρ h (.ref a) (.raw a)
inductive VRs(ρ:List Lc)(h:Heap):List Value->List V->Prop
 |nil:VRs ρ h [] []
 |cons {u us v vs:_}:VR ρ h u v->VRs ρ h us vs->VRs ρ h (u::us) (v::vs)
end
theorem aG{α:Type}{a:α}{P:Prop}(e:none=some a):P:=nomatch e
def VRI(ρ:List Lc)(h:Heap)(x:Value):V->Prop
 | .none=>x= .none
 | .bool b=>x= .bool b
 | .int i=>∃ t,x= .int i t
 | .str s=>∃ t,x= .str s t
 | .tup vs=>∃ a xs n,x= .ref a/\h.get? a=some {cls:=.type "tuple",data:=.seq xs n}/\VRs ρ h xs.toList vs
 | .mat i j k=>∃ a n t u v dd,x= .ref a/\h.get? a=some {cls:=.ref aE,dict:=dd,data:=.seq #[.int i t,.int j u,.int k v] n}
 | .ref n=>∃ l,x= .ref l.a/\ρ[n]? =some l
 | .dget n=>∃ a l,x= .ref a/\ρ[n]? =some l/\h.get? a=some {cls:=.type "builtin_function_or_method",data:=.fields #[.builtin "dict.get",.ref l.a]}
 | .scon n=>∃ a l,x= .ref a/\ρ[n]? =some l/\h.get? a=some {cls:=.type "builtin_function_or_method",data:=.fields #[.builtin "set.__contains__",.ref l.a]}
 | .rng i j k=>∃ a t u v,x= .ref a/\IsRange h a i j k t u v
 | .raw a=>x= .ref a
theorem VR.inv{ρ:List Lc}{h:Heap}{u:Value}{v:V}(r:VR ρ h u v):VRI ρ h u v:=by
 cases r with
 |none=>exact rfl
 |bool=>exact rfl
 |int i t=>exact⟨t,rfl⟩
 |str s t=>exact⟨t,rfl⟩
 |tup g rs=>exact⟨_,_,_,rfl,g,rs⟩
 |mat g=>exact⟨_,_,_,_,_,_,rfl,g⟩
 |ref g=>exact⟨_,rfl,g⟩
 |dget g g'=>exact⟨_,_,rfl,g,g'⟩
 |scon g g'=>exact⟨_,_,rfl,g,g'⟩
 |rng g=>exact⟨_,_,_,_,rfl,g⟩
 |raw=>exact rfl
theorem aO{ρ ρ':List Lc}(e:ρ<+:ρ'){n:Nat}{l:Lc}(h:ρ[n]? =some l):ρ'[n]? =some l:=by
 refine xE e λt z1=>?_;clear e;subst z1
 rw[List.getElem?_append_left (List.getElem?_eq_some_iff.mp h).1];exact h
theorem VR.mono{ρ ρ':List Lc}{h h':Heap}(e:ρ<+:ρ')(i:Imm h h'){u:Value}{v:V}(r:VR ρ h u v):VR ρ' h' u v:=by
 refine VR.rec (motive_1:=λu v _=>VR ρ' h' u v) (motive_2:=λus vs _=>VRs ρ' h' us vs) .none .bool .int .str ?_ ?_ ?_ ?_ ?_ ?_ .raw .nil ?_ r
 ·intro a xs n vs g _ ih;exact .tup (i _ _ g (by simp [aV])) ih
 ·intro a n x y z t u v dd g;exact .mat (i _ _ g (by simp [aV]))
 ·intro n l g;exact .ref (aO e g)
 ·intro a n l g g';exact .dget (aO e g) (i _ _ g' (by simp [aV]))
 ·intro a n l g g';exact .scon (aO e g) (i _ _ g' (by simp [aV]))
 ·intro a x y z t u v g;exact .rng (i _ _ g (by simp [aV]))
 ·intro u us v vs _ _ a b;exact .cons a b
theorem VRs.ind{ρ:List Lc}{h:Heap}{P:List Value->List V->Prop}(n:P [] [])(c:∀ {u us v vs},VR ρ h u v->VRs ρ h us vs->P us vs->P (u::us) (v::vs)){us:List Value}{vs:List V}(r:VRs ρ h us vs):P us vs:=VRs.rec (motive_1:=λ_ _ _=>True) (motive_2:=λus vs _=>P us vs) trivial (λ_=>trivial) (λ_ _=>trivial) (λ_ _=>trivial) (λ_ _ _=>trivial) (λ_=>trivial) (λ_=>trivial) (λ_ _=>trivial) (λ_ _=>trivial) (λ_=>trivial) (λ_=>trivial) n (λa b _ ih=>c a b ih) r
theorem VRs.mono{ρ ρ':List Lc}{h h':Heap}(e:ρ<+:ρ')(i:Imm h h'){us:List Value}{vs:List V}(r:VRs ρ h us vs):VRs ρ' h' us vs:=r.ind (P:=λus vs=>VRs ρ' h' us vs) .nil λa _ ih=>.cons (a.mono e i) ih
theorem VRs.length{ρ:List Lc}{h:Heap}{us:List Value}{vs:List V}(r:VRs ρ h us vs):us.length=vs.length:=r.ind (P:=λus vs=>us.length=vs.length) rfl λ_ _ ih=>congrArg Nat.succ ih
theorem VRs.get{ρ:List Lc}{h:Heap}{us:List Value}{vs:List V}(r:VRs ρ h us vs):∀ {i:Nat}{v:V},vs[i]? =some v->∃ u,us[i]? =some u/\VR ρ h u v:=r.ind (P:=λus vs=>∀ {i:Nat}{v:V},vs[i]? =some v->∃ u,us[i]? =some u/\VR ρ h u v) (λe=>aG (List.getElem?_nil.symm.trans e)) λ{u us v vs} a _ ih {i w} e=>by
  cases i with
  |zero=>exact⟨u,rfl,Option.some.inj e▸a⟩
  |succ i=>exact ih e
theorem VRs.append{ρ:List Lc}{h:Heap}{us us':List Value}{vs vs':List V}(r:VRs ρ h us vs)(b:VRs ρ h us' vs'):VRs ρ h (us++us') (vs++vs'):=r.ind (P:=λus vs=>VRs ρ h (us++us') (vs++vs')) b λa _ ih=>.cons a ih
theorem VRs.take{ρ:List Lc}{h:Heap}{us:List Value}{vs:List V}(r:VRs ρ h us vs):∀ n:Nat,VRs ρ h (us.take n) (vs.take n):=r.ind (P:=λus vs=>∀ n:Nat,VRs ρ h (us.take n) (vs.take n)) (λn=>by rw[List.take_nil,List.take_nil];exact .nil) λa _ ih n=>by
  cases n with
  |zero=>exact .nil
  |succ n=>exact .cons a (ih n)
theorem VRs.drop{ρ:List Lc}{h:Heap}{us:List Value}{vs:List V}(r:VRs ρ h us vs):∀ n:Nat,VRs ρ h (us.drop n) (vs.drop n):=r.ind (P:=λus vs=>∀ n:Nat,VRs ρ h (us.drop n) (vs.drop n)) (λn=>by rw[List.drop_nil,List.drop_nil];exact .nil) λa b ih n=>by
  cases n with
  |zero=>exact .cons a b
  |succ n=>exact ih n
def OV(ρ:List Lc)(h:Heap):Option Value->Option V->Prop
 |none,none=>True
 |some u,some v=>VR ρ h u v
 |_,_=>False
theorem OV.mono{ρ ρ':List Lc}{h h':Heap}(e:ρ<+:ρ')(i:Imm h h'):∀ {u:Option Value}{v:Option V},OV ρ h u v->OV ρ' h' u v
 |none,none,_=>trivial
 |some _,some _,x=>VR.mono e i x
 |none,some _,x=>x.elim
 |some _,none,x=>x.elim
def cS:List Str:=["isjunk","a","b","autojunk","matching_blocks","opcodes","fullbcount","b2j","bjunk","bpopular"]
end
section
structure Cx where
 prog:Program
 w:World
 base:Shared
 lim:base.heap.NoLimit
 GR:List Lc->Shared->Lc->Gn->Prop
 mono:∀ {ρ ρ':List Lc}{s s':Shared}{l:Lc}{g:Gn},ρ<+:ρ'->Imm s.heap s'.heap->(∀ o,s.heap.get? l.a=some o->s'.heap.get? l.a=some o)->(∀ o,s.heap.get? l.d=some o->s'.heap.get? l.d=some o)->
  (∀ k x,l.g=some k->s.gens[k]? =some x->s'.gens[k]? =some x)->GR ρ s l g->GR ρ' s' l g
 here:∀ {ρ s l g},GR ρ s l g->∃ o o',s.heap.get? l.a=some o/\s.heap.get? l.d=some o'/\¬aV o/\¬aV o'
noncomputable abbrev Cx.M(C:Cx):Model:=model C.prog C.w
def OR(C:Cx)(ρ:List Lc)(s:Shared)(l:Lc):MO->Prop
 | .list vs=>l.d=l.a/\l.g=none/\∃ xs n,IsL s.heap l.a xs n/\VRs ρ s.heap xs.toList vs
 | .ro vs=>l.d=l.a/\l.g=none/\∃ xs,C.base.heap.IsList l.a xs/\VRs ρ s.heap xs.toList vs
 | .dict n f=>l.d=l.a/\l.g=none/\∃ kvs:List (Int×Value),s.heap.DictOf (intKind C.prog C.w) l.a kvs/\kvs.length<=n/\∀ k,OV ρ s.heap (valueAt kvs k) (f k)
 | .eset=>l.d=l.a/\l.g=none/\∃ n t,s.heap.get? l.a=some {cls:=.type "set",data:=.set #[] n t}/\t.fits 0=true
 | .inst fs=>l.g=none/\l.d≠l.a/\(∃ o,s.heap.get? l.a=some o/\o.cls= .ref dJ/\o.data= .plain/\o.dict=some l.d)/\∃ m,s.heap.Ns1 l.d m/\s.heap.ExactDictFk l.d/\Within m cS/\∀ x,OV ρ s.heap (m x) (fs x)
 | .gen g=>C.GR ρ s l g
 | .itr none=>l.d=l.a/\l.g=none/\∃ o,s.heap.get? l.a=some o/\¬aV o
 | .itr (some p)=>l.d=l.a/\l.g=none/\∃ li,ρ[p.1]? =some li/\s.heap.IsListIter l.a li.a p.2
structure Sim(C:Cx)(H:MH)(ρ:List Lc)(s:Shared):Prop where
 len:ρ.length=H.length
 keep:∀ b o,C.base.heap.get? b=some o->s.heap.get? b=some o
 objs:∀ (i:Nat) (m:MO) (l:Lc),H[i]? =some m->ρ[i]? =some l->OR C ρ s l m
 ro:∀ (i:Nat) (l:Lc),ρ[i]? =some l->(∃ vs,H[i]? =some (.ro vs))\/(C.base.heap.get? l.a=none/\C.base.heap.get? l.d=none)
 disj:∀ (i j:Nat) (li lj:Lc),ρ[i]? =some li->ρ[j]? =some lj->i≠j->∀ b,li.has b->¬lj.has b
 disjG:∀ (i j:Nat) (li lj:Lc) (k:Nat),ρ[i]? =some li->ρ[j]? =some lj->i≠j->li.g=some k->lj.g≠some k
 os:s.os=C.base.os
 bare:AllBare s.gens
structure Nx(ρ:List Lc)(W:Addr->Prop)(s:Shared)(ρ':List Lc)(s':Shared):Prop where
 pre:ρ<+:ρ'
 new:∀ l∈ρ'.drop ρ.length,s.heap.get? l.a=none/\s.heap.get? l.d=none
 kp:∀ b o,s.heap.get? b=some o->¬Own ρ b->¬W b->s'.heap.get? b=some o
 imm:Imm s.heap s'.heap
 al:∀ b o,s.heap.get? b=some o->∃ o',s'.heap.get? b=some o'
theorem Nx.own{ρ ρ':List Lc}{W:Addr->Prop}{s s':Shared}(N:Nx ρ W s ρ' s'){b:Addr}{o:Obj}(hb:s.heap.get? b=some o)(h: ¬Own ρ b): ¬Own ρ' b:=by
 rintro ⟨l,hl,hh⟩
 refine xE N.pre λt z2=>?_;subst z2
 refine Or.elim (mem_append.mp hl) (λq=>?_) λq=>?_
 ·exact h ⟨l,q,hh⟩
 ·have:=N.new l (by simpa using q)
  rcases hh with rfl |rfl
  ·rw[this.1]at hb;cases hb
  ·rw[this.2]at hb;cases hb
theorem Nx.refl{ρ:List Lc}{W:Addr->Prop}{s:Shared}:Nx ρ W s ρ s:=⟨prefix_refl _,λl hl=>by simp at hl,λ_ _ e _ _=>e,.refl _,λ_ o e=>⟨o,e⟩⟩
theorem Nx.trans{ρ ρ1 ρ2:List Lc}{W:Addr->Prop}{s s1 s2:Shared}(a:Nx ρ W s ρ1 s1)(b:Nx ρ1 W s1 ρ2 s2):Nx ρ W s ρ2 s2:=by
 refine⟨a.pre.trans b.pre,λl hl=>?_,λx o e ho hw=>b.kp x o (a.kp x o e ho hw) (a.own e ho) hw,a.imm.trans b.imm,λx o e=>let ⟨o',e'⟩:=a.al x o e;b.al x o' e'⟩
 refine xE a.pre λt z3=>?_;subst z3
 refine xE b.pre λt' z4=>?_;subst z4
 rw[append_assoc,drop_left]at hl
 refine Or.elim (mem_append.mp hl) (λq=>?_) λq=>?_
 ·exact a.new l (by simpa using q)
 ·have n:=b.new l (by simpa using q)
  refine⟨?_,?_⟩
  ·cases e:s.heap.get? l.a with
   |none=>rfl
   |some o=>refine xE (a.al _ _ e) λo' e'=>?_;rw[n.1]at e';cases e'
  ·cases e:s.heap.get? l.d with
   |none=>rfl
   |some o=>refine xE (a.al _ _ e) λo' e'=>?_;rw[n.2]at e';cases e'
theorem Nx.weaken{ρ ρ':List Lc}{W W':Addr->Prop}{s s':Shared}(a:Nx ρ W s ρ' s')(h:∀ b,W b->W' b):Nx ρ W' s ρ' s':=⟨a.pre,a.new,λb o e ho hw=>a.kp b o e ho λq=>hw (h b q),a.imm,a.al⟩
def noW:Addr->Prop:=λ_=>False
theorem OR.mono{C:Cx}{ρ ρ':List Lc}{s s':Shared}{l:Lc}{m:MO}(e:ρ<+:ρ')(i:Imm s.heap s'.heap)(h1:∀ o,s.heap.get? l.a=some o->s'.heap.get? l.a=some o)(h2:∀ o,s.heap.get? l.d=some o->s'.heap.get? l.d=some o) (h3:∀ k x,l.g=some k->s.gens[k]? =some x->s'.gens[k]? =some x) (r:OR C ρ s l m):OR C ρ' s' l m:=by
 cases m with
 |list vs=>refine iW r λa g xs n x y=>?_;exact⟨a,g,xs,n,h1 _ x,y.mono e i⟩
 |ro vs=>refine nJ r λa g xs x y=>?_;exact⟨a,g,xs,x,y.mono e i⟩
 |dict n f=>refine sN r λa g kvs z5 x y=>?_;obtain⟨o,es,ep,ho,q⟩:=z5;exact⟨a,g,kvs,⟨o,es,ep,h1 _ ho,q⟩,x,λk=>(y k).mono e i⟩
 |eset=>refine iW r λa g n t x y=>?_;exact⟨a,g,n,t,h1 _ x,y⟩
 |inst fs=>refine lO r λg ne z6 m z7 z8 w y=>?_;obtain⟨o,a,b⟩:=z6;obtain⟨o',es,ep,ho,q⟩:=z7;obtain⟨od,hd,x⟩:=z8;exact⟨g,ne,⟨o,h1 _ a,b⟩,m,⟨o',es,ep,h2 _ ho,q⟩,⟨od,h2 _ hd,x⟩,w,λk=>(y k).mono e i⟩
 |gen g=>exact C.mono e i h1 h2 h3 r
 |itr p=>cases p with
  |none=>refine nJ r λa g o y z=>?_;exact⟨a,g,o,h1 _ y,z⟩
  |some p=>refine aCo r λa g li x o y z=>?_;exact⟨a,g,li,aO e x,o,h1 _ y,z⟩
theorem Sim.same{C:Cx}{H:MH}{ρ:List Lc}{s s':Shared}(S:Sim C H ρ s)(hk:∀ b o,s.heap.get? b=some o->(Own ρ b\/(C.base.heap.get? b).isSome=true)->s'.heap.get? b=some o)(i:Imm s.heap s'.heap)(hg:∀ (k:Nat) (x:GenState),s.gens[k]? =some x->s'.gens[k]? =some x) (hos:s'.os=s.os) (hb:AllBare s'.gens):Sim C H ρ s':=by
 refine⟨S.len,λb o e=>hk b o (S.keep b o e) (.inr (by rw[e];rfl)),λj m l hm hj=>?_,S.ro,S.disj,S.disjG,hos.trans S.os,hb⟩
 have hmem:l∈ρ:=mem_of_getElem? hj
 exact(S.objs j m l hm hj).mono (prefix_refl _) i (λo e=>hk _ o e (.inl ⟨l,hmem,.inl rfl⟩)) (λo e=>hk _ o e (.inl ⟨l,hmem,.inr rfl⟩)) (λk x _ e=>hg k x e)
end
section
variable {C:Cx}
noncomputable abbrev Lo:=Str->Option V
def Wr(env:Env)(b:Addr):Prop:=b=env.locals\/∃ x,env.cells.lookup x=some b
structure Fm(C:Cx)(env:Env)(ρ:List Lc)(s:Shared)(lo:Lo):Prop where
 fn:env.scope.kind= .function
 gl:env.globals=mainGlobals
 bi:env.builtins=builtinsNs
 ns:∃ m,s.heap.Ns env.locals m/\∀ x,env.kindOf x=some .local->OV ρ s.heap (m x) (lo x)
 cl:∀ x,env.kindOf x=some .cell\/env.kindOf x=some .free->∃ c o u,env.cells.lookup x=some c/\s.heap.get? c=some o/\o.data= .cell u/\OV ρ s.heap u (lo x)
 own:∀ b,Wr env b->¬Own ρ b/\C.base.heap.get? b=none
 dis:∀ x c,env.cells.lookup x=some c->c≠env.locals
 inj:∀ x y c,env.cells.lookup x=some c->env.cells.lookup y=some c->x=y
 alv:∀ b,Wr env b->∃ o,s.heap.get? b=some o
theorem Fm.next{env:Env}{ρ ρ':List Lc}{s s':Shared}{lo:Lo}{W:Addr->Prop}(F:Fm C env ρ s lo)(N:Nx ρ W s ρ' s')(hw:∀ b,Wr env b->¬W b):Fm C env ρ' s' lo:=by
 refine xEA F.ns λm z9 hm=>?_;obtain⟨o,es,ep,ho,hr⟩:=z9
 have k:∀ b o,Wr env b->s.heap.get? b=some o->s'.heap.get? b=some o:=λb o hb e=>N.kp b o e (F.own b hb).1 (hw b hb)
 refine⟨F.fn,F.gl,F.bi,⟨m,⟨o,es,ep,k _ _ (.inl rfl) ho,hr⟩,λx hx=>(hm x hx).mono N.pre N.imm⟩,λx hx=>?_,λb hb=>⟨(let ⟨o,e⟩:=F.alv b hb;N.own e (F.own b hb).1),(F.own b hb).2⟩,F.dis,F.inj,λb hb=>let ⟨o,e⟩:=F.alv b hb;N.al b o e⟩
 refine cH (F.cl x hx) λc o u h1 h2 h3 h4=>?_
 exact⟨c,o,u,h1,k _ _ (.inr ⟨x,h1⟩) h2,h3,h4.mono N.pre N.imm⟩
def Room(r:Nat)(A:Around):Prop:=A.handled=none/\A.depth+10*r<=700/\A.units+40*r<=8000
theorem Room.lt{r:Nat}{A:Around}(h:Room r A):A.depth<recursionLimit:=by have:=h.2.1;show A.depth<1000;exact A0 this
noncomputable abbrev NoE:Value->Shared->Prop:=λ_ _=>False
noncomputable abbrev EK:=V->MH->Prop
noncomputable abbrev EF:=Lo->MH->EK->Prop
inductive EPo(C:Cx)(ρ:List Lc)(s:Shared)(H':MH)(v:V)(x:Value)(s':Shared):Prop
 |mk (ρ':List Lc) (S:Sim C H' ρ' s') (N:Nx ρ noW s ρ' s') (r:VR ρ' s'.heap x v):EPo C ρ s H' v x s'
inductive bK(C:Cx)(ρ:List Lc)(s:Shared)(Q:EK)(x:Value)(s':Shared):Prop
 |mk {ρ':List Lc}{v:V}{H':MH} (S:Sim C H' ρ' s') (N:Nx ρ noW s ρ' s') (r:VR ρ' s'.heap x v) (q:Q v H'):bK C ρ s Q x s'
def EV(C:Cx)(r:Nat)(env:Env)(e:Expr)(f:EF):Prop:=∀ ⦃A:Around⦄⦃s:Shared⦄⦃ρ:List Lc⦄⦃H:MH⦄⦃lo:Lo⦄⦃Q:EK⦄,Room r A->Sim C H ρ s->Fm C env ρ s lo->f lo H Q->
  wpAny C.M A (eval e env) (bK C ρ s Q) NoE s
theorem wmN{M:Model}{A:Around}{α:Type}{t:Sem α}{P Q:α->Shared->Prop}{E:Value->Shared->Prop}{s:Shared}(h:wpAny M A t P NoE s)(k:∀ a s',P a s'->Q a s'):wpAny M A t Q E s:=wpAny_mono h k λ_ _ z=>z.elim
theorem bK.run{M:Model}{A:Around}{t:Sem Value}{E:Value->Shared->Prop}{ρ:List Lc}{s:Shared}{Q:EK}{K:Value->Shared->Prop}(h:wpAny M A t (bK C ρ s Q) NoE s)(k:∀ {x s' ρ' v H'},Sim C H' ρ' s'->Nx ρ noW s ρ' s'->VR ρ' s'.heap x v->Q v H'->K x s'):wpAny M A t K E s:=wmN h λ_ _ ⟨S,N,r,q⟩=>k S N r q
theorem EV.run{env:Env}{r:Nat}{e:Expr}{f:EF}(h:EV C r env e f){A:Around}{s:Shared}{ρ:List Lc}{H:MH}{lo:Lo}{Q:EK}{K E:Value->Shared->Prop}(hr:Room r A)(S:Sim C H ρ s)(F:Fm C env ρ s lo)(q:f lo H Q)(k:∀ {x s' ρ' v H'},Sim C H' ρ' s'->Nx ρ noW s ρ' s'->VR ρ' s'.heap x v->Q v H'->K x s'):wpAny C.M A (eval e env) K E s:=bK.run (h hr S F q) k
theorem EPo.post{ρ:List Lc}{s:Shared}{H':MH}{v:V}{Q:EK}{x:Value}{s':Shared}(h:EPo C ρ s H' v x s')(q:Q v H'):bK C ρ s Q x s':=let ⟨_,S,N,r⟩:=h;⟨S,N,r,q⟩
theorem Fm.nx{env:Env}{ρ ρ':List Lc}{s s':Shared}{lo:Lo}(F:Fm C env ρ s lo)(N:Nx ρ noW s ρ' s'):Fm C env ρ' s' lo:=F.next N λ_ _ z=>z
theorem VR.nx{ρ ρ':List Lc}{s s':Shared}{W:Addr->Prop}{u:Value}{v:V}(r:VR ρ s.heap u v)(N:Nx ρ W s ρ' s'):VR ρ' s'.heap u v:=r.mono N.pre N.imm
theorem VRs.nx{ρ ρ':List Lc}{s s':Shared}{W:Addr->Prop}{us:List Value}{vs:List V}(r:VRs ρ s.heap us vs)(N:Nx ρ W s ρ' s'):VRs ρ' s'.heap us vs:=r.mono N.pre N.imm
theorem bK.from{ρ ρ1:List Lc}{s s1:Shared}{Q:EK}{x:Value}{s':Shared}(N:Nx ρ noW s ρ1 s1)(p:bK C ρ1 s1 Q x s'):bK C ρ s Q x s':=let ⟨S,N',r,q⟩:=p;⟨S,N.trans N',r,q⟩
theorem EPo.from{ρ ρ1:List Lc}{s s1:Shared}{H':MH}{v:V}{x:Value}{s':Shared}(N:Nx ρ noW s ρ1 s1)(p:EPo C ρ1 s1 H' v x s'):EPo C ρ s H' v x s':=let ⟨ρ',S,N',r⟩:=p;⟨ρ',S,N.trans N',r⟩
theorem bD(h:Heap):h.get? h.objs.size=none:=by
 cases e:h.get? h.objs.size with
 |none=>rfl
 |some o=>exact absurd (Heap.lt_size e) (Nat.lt_irrefl _)
theorem Sim.toks{H:MH}{ρ:List Lc}{s:Shared}(S:Sim C H ρ s)(k:Nat):Sim C H ρ {s with toks:=k}:=S.same (λ_ _ e _=>e) (.refl _) (λ_ _ e=>e) rfl S.bare
theorem Nx.toks{ρ:List Lc}{W:Addr->Prop}{s:Shared}(k:Nat):Nx ρ W s ρ {s with toks:=k}:=⟨prefix_refl _,λl hl=>by simp at hl,λ_ _ e _ _=>e,.refl _,λ_ o e=>⟨o,e⟩⟩
theorem eQ(h:Heap)(o:Obj):Imm h (h.push o):=λb x e _=>Heap.get?_push_of_some o e
theorem Sim.push{H:MH}{ρ:List Lc}{s:Shared}(S:Sim C H ρ s)(o:Obj):Sim C H ρ {s with heap:=s.heap.push o}:=S.same (λ_ _ e _=>Heap.get?_push_of_some o e) (eQ _ _) (λ_ _ e=>e) rfl S.bare
theorem Nx.push{ρ:List Lc}{W:Addr->Prop}{s:Shared}(o:Obj):Nx ρ W s ρ {s with heap:=s.heap.push o}:=⟨prefix_refl _,λl hl=>by simp at hl,λ_ _ e _ _=>Heap.get?_push_of_some o e,eQ _ _,λ_ x e=>⟨x,Heap.get?_push_of_some o e⟩⟩
theorem Sim.live{H:MH}{ρ:List Lc}{s:Shared}(S:Sim C H ρ s){i:Nat}{l:Lc}(hl:ρ[i]? =some l):(∃ o,s.heap.get? l.a=some o/\¬aV o)/\∃ o,s.heap.get? l.d=some o/\¬aV o:=by
 have hlt:i<H.length:=by rw[<-S.len];exact(List.getElem?_eq_some_iff.mp hl).1
 have r:=S.objs i H[i] l (getElem?_eq_getElem hlt) hl
 revert r
 cases H[i] with
 |list vs=>rintro ⟨a,g,xs,n,x,y⟩;rw[a];exact⟨⟨_,x,by simp [aV]⟩,⟨_,x,by simp [aV]⟩⟩
 |ro vs=>rintro ⟨a,g,xs,⟨o,x,hc,n,hd⟩,y⟩;rw[a];have:=S.keep _ _ x;exact⟨⟨_,this,by simp [aV,hd,hc]⟩,⟨_,this,by simp [aV,hd,hc]⟩⟩
 |dict n f=>rintro ⟨a,g,kvs,⟨o,es,ep,ho,hc,hd,_⟩,_⟩;rw[a];exact⟨⟨_,ho,by simp [aV,hd]⟩,⟨_,ho,by simp [aV,hd]⟩⟩
 |eset=>rintro ⟨a,g,n,t,x,y⟩;rw[a];exact⟨⟨_,x,by simp [aV]⟩,⟨_,x,by simp [aV]⟩⟩
 |inst fs=>rintro ⟨g,ne,⟨o,a,_,b,_⟩,m,⟨o',es,ep,ho,hd,q⟩,_⟩;exact⟨⟨_,a,by simp [aV,b]⟩,⟨_,ho,by simp [aV,hd]⟩⟩
 |gen g=>intro r;refine xEEAAA (C.here r) λo o' h1 h2 h3 h4=>?_;exact⟨⟨o,h1,h3⟩,⟨o',h2,h4⟩⟩
 |itr p=>cases p with
  |none=>rintro ⟨a,g,o,y,z⟩;rw[a];exact⟨⟨o,y,z⟩,⟨o,y,z⟩⟩
  |some p=>rintro ⟨a,g,li,x,o,y,z1,z2⟩;rw[a];exact⟨⟨o,y,by simp [aV,z1,z2]⟩,⟨o,y,by simp [aV,z1,z2]⟩⟩
theorem dX{h h':Heap}(hk:∀ b o,h.get? b=some o->h'.get? b=some o):Imm h h':=λb o e _=>hk b o e
theorem fQ{α:Type}{ρ:List α}{l l':α}{i:Nat}(h:(ρ++[l])[i]? =some l'):ρ[i]? =some l'\/(i=ρ.length/\l'=l):=by
 refine Or.elim (lt_or_ge i ρ.length) (λq=>?_) λq=>?_
 ·rw[List.getElem?_append_left q]at h;exact .inl h
 ·rw[getElem?_append_right q]at h
  cases e:i-ρ.length with
  |zero=>rw[e]at h;exact .inr ⟨Nat.le_antisymm (Nat.le_of_sub_eq_zero e) q,(Option.some.inj h).symm⟩
  |succ n=>rw[e]at h;cases h
theorem jD{H:MH}{ρ:List Lc}{s:Shared}(S:Sim C H ρ s){b:Addr}(h:s.heap.get? b=none):C.base.heap.get? b=none:=by
 cases e:C.base.heap.get? b with
 |none=>rfl
 |some o=>rw[S.keep _ _ e]at h;cases h
theorem nZ{H:MH}{ρ:List Lc}{s:Shared}(S:Sim C H ρ s){l:Lc}(ha:s.heap.get? l.a=none)(hd:s.heap.get? l.d=none){b:Addr}(h:l.has b): ¬Own ρ b:=by
 rintro ⟨l',hl,hb⟩
 refine xE (getElem?_of_mem hl) λi hi=>?_
 refine xAEA (S.live hi) λz11 o' h2 _=>?_;obtain⟨o,h1,_⟩:=z11
 have q:s.heap.get? b=none:=by rcases h with rfl |rfl<;>assumption
 rcases hb with rfl |rfl
 ·rw[q]at h1;cases h1
 ·rw[q]at h2;cases h2
theorem Sim.new{H:MH}{ρ:List Lc}{s s':Shared}{l:Lc}{m:MO}(S:Sim C H ρ s)(hk:∀ b o,s.heap.get? b=some o->s'.heap.get? b=some o)(hg:∀ (k:Nat) (x:GenState),s.gens[k]? =some x->s'.gens[k]? =some x)(hos:s'.os=s.os)(hb:AllBare s'.gens)(ha:s.heap.get? l.a=none) (hd:s.heap.get? l.d=none) (hf:∀ k,l.g=some k->∀ l'∈ρ,l'.g≠some k) (hm:OR C (ρ++[l]) s' l m):Sim C (H++[m]) (ρ++[l]) s'/\∀ W,Nx ρ W s (ρ++[l]) s':=by
 have fo:= @nZ C H ρ s S l ha hd
 refine⟨⟨by rw[length_append,length_append,S.len];rfl,λb o e=>hk b o (S.keep b o e),λi x l' hx hl=>?_,λi l' hl=>?_,λi j li lj hi hj hne b h1 h2=>?_,λi j li lj k hi hj hne h1 h2=>?_,hos.trans S.os,hb⟩,
  λW=>⟨prefix_append _ _,λl' hl=>?_,λb o e _ _=>hk b o e,dX hk,λb o e=>⟨o,hk b o e⟩⟩⟩
 ·rcases fQ hl with q |⟨rfl,rfl⟩
  ·rw[List.getElem?_append_left (by rw[<-S.len];exact(List.getElem?_eq_some_iff.mp q).1)]at hx
   exact(S.objs i x l' hx q).mono (prefix_append _ _) (dX hk) (λo e=>hk _ o e) (λo e=>hk _ o e) (λk y _ e=>hg k y e)
  ·rw[S.len,getElem?_append_right (le_refl _),sub_self]at hx
   cases hx;exact hm
 ·rcases fQ hl with q |⟨rfl,rfl⟩
  ·rw[List.getElem?_append_left (by rw[<-S.len];exact(List.getElem?_eq_some_iff.mp q).1)];exact S.ro i l' q
  ·exact .inr ⟨jD S ha,jD S hd⟩
 ·rcases fQ hi with q |⟨e1,rfl⟩<;>rcases fQ hj with q' |⟨e2,rfl⟩
  ·exact S.disj i j li lj q q' hne b h1 h2
  ·exact fo h2 ⟨li,mem_of_getElem? q,h1⟩
  ·exact fo h1 ⟨lj,mem_of_getElem? q',h2⟩
  ·exact hne (e1.trans e2.symm)
 ·rcases fQ hi with q |⟨e1,rfl⟩<;>rcases fQ hj with q' |⟨e2,rfl⟩
  ·exact S.disjG i j li lj k q q' hne h1 h2
  ·exact hf k h2 li (mem_of_getElem? q) h1
  ·exact hf k h1 lj (mem_of_getElem? q') h2
  ·exact hne (e1.trans e2.symm)
 ·rw[drop_left]at hl;cases mem_singleton.mp hl;exact⟨ha,hd⟩
theorem Sim.grow{H:MH}{ρ:List Lc}{s:Shared}{h':Heap}{k:Nat}{l:Lc}{m:MO}(S:Sim C H ρ s)(hk:∀ b o,s.heap.get? b=some o->h'.get? b=some o)(ha:s.heap.get? l.a=none)(hd:s.heap.get? l.d=none)(hlg:l.g=none)(hm:OR C (ρ++[l]) {s with heap:=h',toks:=k} l m):Sim C (H++[m]) (ρ++[l]) {s with heap:=h',toks:=k}/\∀ W,Nx ρ W s (ρ++[l]) {s with heap:=h',toks:=k}:=S.new (s':= {s with heap:=h',toks:=k}) hk (λ_ _ e=>e) rfl S.bare ha hd (λk e=>by rw[hlg]at e;cases e) hm
theorem Sim.last{H:MH}{ρ:List Lc}{s:Shared}(S:Sim C H ρ s){l:Lc}:(ρ++[l])[H.length]? =some l:=by rw[<-S.len];simp
theorem Sim.alloc{H:MH}{ρ:List Lc}{s:Shared}(S:Sim C H ρ s)(o:Obj)(m:MO)(hm:OR C (ρ++[⟨s.heap.objs.size,s.heap.objs.size,none⟩]) {s with heap:=s.heap.push o} ⟨s.heap.objs.size,s.heap.objs.size,none⟩ m):
  Sim C (H++[m]) (ρ++[⟨s.heap.objs.size,s.heap.objs.size,none⟩]) {s with heap:=s.heap.push o}:=(S.grow (k:=s.toks) (λ_ _ e=>Heap.get?_push_of_some o e) (bD _) (bD _) rfl hm).1
theorem Nx.alloc{ρ:List Lc}{W:Addr->Prop}{s:Shared}(o:Obj):Nx ρ W s (ρ++[⟨s.heap.objs.size,s.heap.objs.size,none⟩]) {s with heap:=s.heap.push o}:=⟨prefix_append _ _,λl hl=>by simp at hl;subst hl;exact⟨bD _,bD _⟩,λ_ _ e _ _=>Heap.get?_push_of_some o e,eQ _ _,λ_ x e=>⟨x,Heap.get?_push_of_some o e⟩⟩
theorem Sim.upd{H:MH}{ρ:List Lc}{s s':Shared}(S:Sim C H ρ s){i:Nat}{l:Lc}{m m':MO}(hl:ρ[i]? =some l)(hH:H[i]? =some m)(hro:∀ vs,m≠ .ro vs)(hk:∀ b o,s.heap.get? b=some o->¬l.has b->s'.heap.get? b=some o) (hi:Imm s.heap s'.heap)(hg:s'.gens=s.gens) (hos:s'.os=s.os) (hm:OR C ρ s' l m') (hnr:∀ vs,m'≠ .ro vs):Sim C (H.set i m') ρ s':=by
 have hil:i<H.length:=(List.getElem?_eq_some_iff.mp hH).1
 have hbase:C.base.heap.get? l.a=none/\C.base.heap.get? l.d=none:=by
  rcases S.ro i l hl with ⟨vs,e⟩ |e
  ·rw[hH]at e;exact absurd (Option.some.inj e) (hro vs)
  ·exact e
 refine⟨by simp [S.len],λb o e=>hk b o (S.keep b o e) (λq=>by rcases q with rfl |rfl<;>simp_all),λj x lj hx hj=>?_,λj lj hj=>?_,S.disj,S.disjG,hos.trans S.os,by rw[hg];exact S.bare⟩
 ·by_cases e:j=i
  ·subst e
   rw[hl]at hj;cases hj
   rw[getElem?_set_self hil]at hx;cases hx
   exact hm
  ·rw[getElem?_set_ne (Ne.symm e)]at hx
   have d:=S.disj j i lj l hj hl e
   exact(S.objs j x lj hx hj).mono (prefix_refl _) hi (λo q=>hk _ o q (d _ (.inl rfl))) (λo q=>hk _ o q (d _ (.inr rfl))) (λk y _ q=>by rw[hg];exact q)
 ·by_cases e:j=i
  ·subst e
   rw[hl]at hj;cases hj
   exact .inr hbase
  ·rw[getElem?_set_ne (Ne.symm e)];exact S.ro j lj hj
end
section
variable {C:Cx}{r:Nat}{env:Env}
theorem EPo.here{ρ:List Lc}{s:Shared}{H:MH}{v:V}{x:Value}(S:Sim C H ρ s)(r:VR ρ s.heap x v):EPo C ρ s H v x s:=⟨ρ,S,.refl,r⟩
theorem EPo.tok{ρ:List Lc}{s:Shared}{H:MH}{v:V}{x:Value}{k:Nat}(S:Sim C H ρ s)(r:VR ρ s.heap x v):EPo C ρ s H v x {s with toks:=k}:=⟨ρ,S.toks _,.toks _,r⟩
theorem bK.here{ρ:List Lc}{s:Shared}{H:MH}{v:V}{Q:EK}{x:Value}(S:Sim C H ρ s)(r:VR ρ s.heap x v)(q:Q v H):bK C ρ s Q x s:=⟨S,.refl,r,q⟩
theorem bK.tok{ρ:List Lc}{s:Shared}{H:MH}{v:V}{Q:EK}{x:Value}{k:Nat}(S:Sim C H ρ s)(r:VR ρ s.heap x v)(q:Q v H):bK C ρ s Q x {s with toks:=k}:=⟨S.toks _,.toks _,r,q⟩
def eK(v:V):EF:=λ_ H Q=>Q v H
theorem EV.int{i:Int}{k pos}:EV C r env (.Constant (.int i) k pos) (eK (.int i)):=λ_ _ _ _ _ _ _ S _ q=>wpAny_Constant_int (.tok S (.int _ _) q)
theorem EV.none{k pos}:EV C r env (.Constant .none k pos) (eK .none):=λ_ _ _ _ _ _ _ S _ q=>wpAny_Constant_none (.here S .none q)
theorem EV.bool{b k pos}:EV C r env (.Constant (.bool b) k pos) (eK (.bool b)):=λ_ _ _ _ _ _ _ S _ q=>wpAny_Constant_bool (.here S (.bool b) q)
theorem EV.str{x:Str}{k pos}:EV C r env (.Constant (.str x) k pos) (eK (.str x)):=λ_ _ _ _ _ _ _ S _ q=>wpAny_Constant_str (.tok S (.str _ _) q)
def Lf{α:Type}(o:Option α)(Q:α->Prop):Prop:=match o with |some p=>Q p |none=>False
theorem Lf.elim{α:Type}{o:Option α}{Q:α->Prop}{P:Prop}(h:Lf o Q)(k:∀ p,o=some p->Q p->P):P:=match o,h,k with
 |some p,h,k=>k p rfl h
theorem Lf.mk{α:Type}{o:Option α}{Q:α->Prop}{p:α}(e:o=some p)(q:Q p):Lf o Q:=by subst e;exact q
def Lp(o:Option (V×MH))(Q:EK):Prop:=Lf o λp=>Q p.1 p.2
def eN(x:Str):EF:=λlo H Q=>Lf (lo x) λv=>Q v H
theorem OV.elim{ρ:List Lc}{h:Heap}{u:Option Value}{w:Option V}{v:V}{P:Prop}(e:w=some v)(o:OV ρ h u w)(k:∀ x,u=some x->VR ρ h x v->P):P:=by
 subst e
 cases u with
 |none=>exact False.elim o
 |some x=>exact k x rfl o
theorem vS{A:Around}{s:Shared}{ρ:List Lc}{lo:Lo}{x:Str}{v:V}{P:Prop}(F:Fm C env ρ s lo)(hx:lo x=some v)(hk:env.kindOf x=some .cell\/env.kindOf x=some .free)(k:∀ c o u,env.cells.lookup x=some c->s.heap.get? c=some o->o.data= .cell (some u)->VR ρ s.heap u v->P):P:=by
 refine cH (F.cl x hk) λc o u h1 h2 h3 h4=>?_
 exact h4.elim hx λu e r=>k c o u h1 h2 (h3.trans (by rw[e])) r
theorem nV{A:Around}{s:Shared}{ρ:List Lc}{lo:Lo}{x:Str}{v:V}{Q E:Value->Shared->Prop}(hk:env.kindOf x=some .local\/env.kindOf x=some .cell\/env.kindOf x=some .free)(hc:(x==("__classdict__" :Str))=false)(F:Fm C env ρ s lo) (hx:lo x=some v) (k:∀ u,VR ρ s.heap u v->Q u s):wpAny C.M A (loadName env x) Q E s:=by
 refine Or.elim hk (λhk=>?_) λz12=>Or.elim z12 (λhk=>?_) λhk=>?_
 ·refine xEA F.ns λm hns hm=>?_
  exact(hm x hk).elim hx λu e r=>wpAny_loadName_local F.fn hk hns e (k u r)
 ·exact vS (A:=A) F hx (.inl hk) λc o u h1 h2 h3 r=>wpAny_loadName_cell F.fn hk h1 ⟨o,h2,h3⟩ (k u r)
 ·exact vS (A:=A) F hx (.inr hk) λc o u h1 h2 h3 r=>wpAny_loadName_free F.fn hk h1 ⟨o,h2,h3⟩ (k u r) hc
theorem EV.name{x:Str}{pos}(hk:env.kindOf x=some .local\/env.kindOf x=some .cell\/env.kindOf x=some .free)(hd:(x==("__debug__" :Str))=false)(hc:(x==("__classdict__" :Str))=false):EV C r env (.Name x pos) (eN x):=λ_ _ _ _ _ _ _ S F q=>q.elim λ_ hx q=>wpAny_Name (nV hk hc F hx λ_ rv=>.here S rv q) hd
noncomputable abbrev OpF:=V->V->MH->Option (V×MH)
def OpR(C:Cx)(r:Nat)(op:Value->Value->Sem Value)(g:OpF):Prop:=∀ ⦃A:Around⦄⦃s:Shared⦄⦃ρ:List Lc⦄⦃H:MH⦄⦃a b:Value⦄⦃va vb:V⦄⦃Q:EK⦄,Room r A->Sim C H ρ s->VR ρ s.heap a va->VR ρ s.heap b vb->Lp (g va vb H) Q->
  wpAny C.M A (op a b) (bK C ρ s Q) NoE s
theorem OpR.of{op:Value->Value->Sem Value}{g:OpF}(h:∀ {A:Around}{s:Shared}{ρ:List Lc}{H:MH}{a b:Value}{va vb v:V}{H':MH},Room r A->Sim C H ρ s->VR ρ s.heap a va->VR ρ s.heap b vb->g va vb H=some (v,H')-> wpAny C.M A (op a b) (EPo C ρ s H' v) NoE s):OpR C r op g:=λ_ _ _ _ _ _ _ _ _ hr S ra rb q=>q.elim λ_ e q=>wmN (h hr S ra rb e) λ_ _ p=>p.post q
def aB(g:OpF)(f1 f2:EF):EF:=λlo H Q=>f1 lo H λa H1=>f2 lo H1 λb H2=>Lp (g a b H2) Q
theorem EV.two{e1 e2:Expr}{f1 f2:EF}(h1:EV C r env e1 f1)(h2:EV C r env e2 f2){A:Around}{s:Shared}{ρ:List Lc}{H:MH}{lo:Lo}{Q:V->V->MH->Prop}{K:Value->Value->Shared->Prop}(hr:Room r A) (S:Sim C H ρ s) (F:Fm C env ρ s lo) (g:f1 lo H λa H1=>f2 lo H1 λb H2=>Q a b H2)(k:∀ {x y s2 ρ2 a b H2},Sim C H2 ρ2 s2->Nx ρ noW s ρ2 s2->VR ρ2 s2.heap x a->VR ρ2 s2.heap y b->Q a b H2->K x y s2):wpAny C.M A (eval e1 env) (λx s1=>wpAny C.M A (eval e2 env) (λy s2=>K x y s2) NoE s1) NoE s:=h1.run hr S F g λS1 N1 r1 g=>h2.run hr S1 (F.nx N1) g λS2 N2 r2 q=>k S2 (N1.trans N2) (r1.nx N2) r2 q
theorem EV.binOp{e1 e2:Expr}{op:Operator}{pos:Pos}{f1 f2:EF}{g:OpF}(h1:EV C r env e1 f1)(h2:EV C r env e2 f2)(ho:OpR C r (binaryOp op) g):EV C r env (.BinOp e1 op e2 pos) (aB g f1 f2):=λ_ _ _ _ _ _ hr S F q=>wpAny_BinOp (EV.two h1 h2 hr S F q λS2 N2 rx ry q=>wmN (ho hr S2 rx ry q) λ_ _ p=>p.from N2)
theorem EV.cmp1{e1 e2:Expr}{op:CmpOp}{pos:Pos}{f1 f2:EF}{g:OpF}(h1:EV C r env e1 f1)(h2:EV C r env e2 f2)(ho:OpR C r (compareOp op) g)(hm:behindInMarks op e2=false):EV C r env (.Compare e1 [op] [e2] pos) (aB g f1 f2):=λ_ _ _ _ _ _ hr S F q=>wpAny_Compare1 (EV.two h1 h2 hr S F q λS2 N2 rx ry q=>wmN (ho hr S2 rx ry q) λ_ _ p=>p.from N2) hm
def Ti(v:V):Option Int:=match v with | .int x=>some x |_=>none
theorem VR.tiE{ρ:List Lc}{h:Heap}{u:Value}{v:V}{i:Int}(r:VR ρ h u v)(e:Ti v=some i):∃ t,u= .int i t:=by
 cases v with
 |int j=>cases e;exact r.inv
 |_=>first |exact aG e |cases e
theorem VR.ti{ρ:List Lc}{h:Heap}{u:Value}{v:V}{i:Int}{P:Value->Prop}(r:VR ρ h u v)(e:Ti v=some i)(k:∀ t,P (.int i t)):P u:=let ⟨t,e⟩:=r.tiE e;e▸k t
def o2(p:Int->Int->Bool)(f:Int->Int->V):OpF:=λa b H=>(Ti a).bind λx=>(Ti b).bind λy=>if p x y then some (f x y,H) else none
theorem aDh{p:Int->Int->Bool}{f:Int->Int->V}{a b v:V}{H H':MH}{P:Prop}(e:o2 p f a b H=some (v,H'))(k:∀ x y,Ti a=some x->Ti b=some y->p x y=true->v=f x y->H'=H->P):P:=by
 refine xEA (bind_eq_some_iff.mp e) λx h1 e=>?_
 refine xEA (bind_eq_some_iff.mp e) λy h2 e=>?_
 split at e
 ·rename_i hp;cases e;exact k x y h1 h2 hp rfl rfl
 ·exact aG e
def mU:OpF:=o2 (λ_ _=>true) λx y=>.int (x+y)
def cE:OpF:=o2 (λ_ _=>true) λx y=>.int (x-y)
def oMul:OpF:=o2 (λx _=>decide (-1000000000<x/\x<1000000000)) λx y=>.int (x*y)
def yX:OpF:=o2 (λ_ y=>decide (0<y/\y<1000000000)) λx y=>.int (x/y)
def l0:OpF:=o2 (λ_ y=>decide (0<y)) λx y=>.int (x%y)
theorem OpR.i2{op:Value->Value->Sem Value}{p:Int->Int->Bool}{f:Int->Int->V}(h:∀ {A:Around}{s:Shared}{ρ:List Lc}{x y:Int}{t u:Tok}{Q:Value->Shared->Prop},Room r A->p x y=true->(∀ z k,VR ρ s.heap z (f x y)->Q z {s with toks:=k})->wpAny C.M A (op (.int x t) (.int y u)) Q NoE s):OpR C r op (o2 p f):=
 by
  refine OpR.of ?_
  intro A s ρ H a b va vb v H' hr S ra rb e
  refine aDh e λx y h1 h2 hp hv hH=>?_
  subst hv hH
  exact VR.ti (P:=λa=>wpAny C.M A (op a b) _ _ _) ra h1 λt=>VR.ti (P:=λb=>wpAny C.M A (op _ b) _ _ _) rb h2 λu=>h hr hp λz k rz=>EPo.tok S rz
theorem OpR.sub:OpR C r (binaryOp .Sub) cE:=OpR.i2 λ_ _ k=>sub_int (k _ _ (.int _ _))
theorem OpR.mul:OpR C r (binaryOp .Mult) oMul:=OpR.i2 λ_ hp k=>by
 have hb:=of_decide_eq_true hp
 exact mul_int (k _ _ (.int _ _)) (.of_left (intBits_le_64 (le_of_lt (Int.lt_trans (by decide) hb.1)) (Int.lt_trans hb.2 (by decide))))
theorem OpR.div:OpR C r (binaryOp .FloorDiv) yX:=OpR.i2 λ_ hp k=>by
 have hb:=of_decide_eq_true hp
 refine floordiv_int (Int.ne_of_gt hb.1) (k _ _ ?_) (.inl (PyProof.noPylong_small (by omega)))
 rw[Int.fdiv_eq_ediv_of_nonneg _ (le_of_lt hb.1)]
 exact .int _ _
theorem OpR.mod:OpR C r (binaryOp .Mod) l0:=OpR.i2 λ_ hp k=>by
 have hb:=of_decide_eq_true hp
 refine mod_int' (Int.ne_of_gt hb) (k _ _ ?_)
 rw[Int.fmod_eq_emod_of_nonneg _ (le_of_lt hb)]
 exact .int _ _
def bC(f:Int->Int->Bool):OpF:=o2 (λ_ _=>true) λx y=>.bool (f x y)
theorem OpR.lt:OpR C r (compareOp .Lt) (bC λx y=>decide (x<y)):=OpR.i2 λ_ _ k=>lt_int (k _ _ (.bool _))
theorem OpR.le:OpR C r (compareOp .LtE) (bC λx y=>decide (x<=y)):=OpR.i2 λ_ _ k=>le_int (k _ _ (.bool _))
theorem OpR.gt:OpR C r (compareOp .Gt) (bC λx y=>decide (x>y)):=OpR.i2 λ_ _ k=>gt_int (k _ _ (.bool _))
theorem OpR.ge:OpR C r (compareOp .GtE) (bC λx y=>decide (x>=y)):=OpR.i2 λ_ _ k=>ge_int (k _ _ (.bool _))
end
section
open PySem PySem.W PyProof.Rows PySem.Calls PyProof
variable {C:Cx}{r:Nat}{env:Env}
def MO.vs:MO->Option (List V) | .list vs=>some vs | .ro vs=>some vs |_=>none
def MO.own:MO->Option (List V) | .list vs=>some vs |_=>none
def V.rf:V->Option Nat | .ref i=>some i |_=>Option.none
def lst(H:MH)(v:V):Option (List V):=v.rf.bind λi=>H[i]?.bind MO.vs
theorem VR.toRef{ρ:List Lc}{h:Heap}{u:Value}{v:V}{i:Nat}(r:VR ρ h u v)(e:v.rf=some i):∃ l,v= .ref i/\u= .ref l.a/\ρ[i]? =some l:=by
 cases v with
 |ref n=>cases e;refine xEA r.inv λl h1 h2=>?_;exact⟨l,rfl,h1,h2⟩
 |_=>first |exact aG e |cases e
theorem lst_mo{H:MH}{i:Nat}{vs:List V}(e:H[i]?.bind MO.vs=some vs):H[i]? =some (.list vs)\/H[i]? =some (.ro vs):=by
 refine xEA (bind_eq_some_iff.mp e) λm h1 h2=>?_
 cases m with
 |list ws=>cases h2;exact .inl h1
 |ro ws=>cases h2;exact .inr h1
 |_=>cases h2
theorem lZ{H:MH}{i:Nat}{vs:List V}(e:H[i]?.bind MO.own=some vs):H[i]? =some (.list vs):=by
 refine xEA (bind_eq_some_iff.mp e) λm h1 h2=>?_
 cases m with
 |list ws=>cases h2;exact h1
 |_=>cases h2
theorem b5{H:MH}{ρ:List Lc}{s:Shared}(S:Sim C H ρ s){u:Value}{v:V}{vs:List V}(r:VR ρ s.heap u v)(e:lst H v=some vs):∃ a xs,u= .ref a/\s.heap.IsList a xs/\VRs ρ s.heap xs.toList vs:=by
 refine xEA (bind_eq_some_iff.mp e) λi hi e=>?_
 refine cX (r.toRef hi) λl hv hu g=>?_
 refine Or.elim (lst_mo (i:=i) e) (λh=>?_) λh=>?_
 ·refine iW (S.objs i _ l h g) λ_ _ xs k hx rs=>?_;exact⟨_,xs,hu,⟨_,hx,rfl,_,rfl⟩,rs⟩
 ·refine nJ (S.objs i _ l h g) λ_ _ xs z13 rs=>?_;obtain⟨o,hx,q⟩:=z13;exact⟨_,xs,hu,⟨o,S.keep _ _ hx,q⟩,rs⟩
structure iV(H:MH)(ρ:List Lc)(s:Shared)(i:Nat)(l:Lc)(vs:List V)(xs:Array Value)(n:Nat):Prop where
 g:ρ[i]? =some l
 d:l.d=l.a
 gn:l.g=none
 h:H[i]? =some (.list vs)
 x:IsL s.heap l.a xs n
 r:VRs ρ s.heap xs.toList vs
theorem iZ{H:MH}{ρ:List Lc}{s:Shared}(S:Sim C H ρ s){i:Nat}{l:Lc}{vs:List V}(g:ρ[i]? =some l)(h:H[i]? =some (.list vs)):∃ xs n,iV H ρ s i l vs xs n:=let ⟨h1,h2,xs,k,hx,rs⟩:=S.objs i _ l h g;⟨xs,k,g,h1,h2,h,hx,rs⟩
theorem VRs.sz{ρ:List Lc}{h:Heap}{xs:Array Value}{vs:List V}(r:VRs ρ h xs.toList vs):xs.size=vs.length:=by rw[<-r.length];exact Array.length_toList.symm
def zV:V->Option PyData | .none=>some .none | .bool b=>some (.bool b) | .int i=>some (.int i) | .str s=>some (.str s) |_=>none
def rd(H:MH):Nat->V->Option PyData
 |0,v=>zV v
 |n+1,.tup vs=>(vs.mapM (rd H n)).map .tuple
 |n+1,.ref i=>(lst H (.ref i)).bind λvs=>(vs.mapM (rd H n)).map .list
 |_+1,v=>zV v
theorem eS{ρ:List Lc}{h:Heap}{u:Value}{v:V}{d:PyData}(r:VR ρ h u v)(e:zV v=some d):∃ as,Reads h u d as:=by
 cases v with
 |none=>cases e;cases(show u= .none from r.inv);exact⟨_,.none⟩
 |bool b=>cases e;cases(show u= .bool b from r.inv);exact⟨_,.bool b⟩
 |int i=>cases e;refine xE r.inv λt z14=>?_;subst z14;exact⟨_,.int i t⟩
 |str x=>cases e;refine xE r.inv λt z15=>?_;subst z15;exact⟨_,.str x t⟩
 |_=>first |exact aG e |cases e
theorem kJ{H:MH}{ρ:List Lc}{h:Heap}{n:Nat}(ih:∀ {u:Value}{v:V}{d:PyData},VR ρ h u v->rd H n v=some d->∃ as,Reads h u d as){us:List Value}{vs:List V} (r:VRs ρ h us vs):∀ {ds:List PyData},vs.mapM (rd H n)=some ds->∃ as,ReadsAll h us ds as:=r.ind (P:=λus vs=>∀ {ds:List PyData},vs.mapM (rd H n)=some ds->∃ as,ReadsAll h us ds as) (λe=>by cases e;exact⟨_,.nil⟩) λa _ ih2 ds e=>by
  simp only[mapM_cons,bind_eq_bind,bind_eq_some_iff,pure_def,Option.some.injEq]at e
  refine w8 e λd h1 ds h2 z16=>?_;clear e;subst z16
  refine xE (ih a h1) λas r1=>?_
  refine xE (ih2 h2) λbs r2=>?_
  exact⟨_,.cons r1 r2⟩
theorem eE{H:MH}{ρ:List Lc}{s:Shared}(S:Sim C H ρ s):∀ (n:Nat){u:Value}{v:V}{d:PyData},VR ρ s.heap u v->rd H n v=some d->∃ as,Reads s.heap u d as
 |0,_,_,_,r,e=>eS r e
 |n+1,u,v,d,r,e=>by
  cases r with
  |tup g rs=>
   refine xEA (map_eq_some_iff.mp e) λds hm z17=>?_;subst z17
   refine xE (kJ (eE S n) rs hm) λas r2=>?_
   exact⟨_,.tuple g rfl rfl r2⟩
  |ref g=>
   refine xEA (bind_eq_some_iff.mp e) λvs hl e=>?_
   refine xEA (map_eq_some_iff.mp e) λds hm z18=>?_;subst z18
   refine bL (b5 S (.ref g) hl) λa xs hu z19 rs=>?_;obtain⟨o,hx,hc,k,hd⟩:=z19
   refine xE (kJ (eE S n) rs hm) λas r2=>?_
   cases hu
   exact⟨_,.list hx hc hd r2⟩
  |none=>exact eS (ρ:=ρ) .none e
  |bool b=>exact eS (ρ:=ρ) (.bool b) e
  |int i t=>exact eS (ρ:=ρ) (.int i t) e
  |str x t=>exact eS (ρ:=ρ) (.str x t) e
  |_=>first |exact aG e |cases e
def eqD:Nat:=8
def eqv(H:MH)(a b:V):Option Bool:=(rd H eqD a).bind λda=>(rd H eqD b).bind λdb=>if PySem.SeqAt.shaped da && PySem.SeqAt.shaped db then some (PyData.eqv da db) else none
def bG(f:Bool->Bool):OpF:=λa b H=>(eqv H a b).map λt=>(.bool (f t),H)
theorem Room.units{r:Nat}{A:Around}(h:Room r A):A.units+64<cLine:=by have:=h.2.2;show A.units+64<9900;exact A1 this
theorem eqv_ok{H:MH}{ρ:List Lc}{s:Shared}{a b:Value}{va vb:V}{t:Bool}{P:Prop}(S:Sim C H ρ s)(ra:VR ρ s.heap a va)(rb:VR ρ s.heap b vb)(e:eqv H va vb=some t)(k:∀ da db as bs,Reads s.heap a da as->Reads s.heap b db bs->PySem.SeqAt.shaped da=true->PySem.SeqAt.shaped db=true->t=PyData.eqv da db->P):P:=by
 refine xEA (bind_eq_some_iff.mp e) λda h1 e=>?_
 refine xEA (bind_eq_some_iff.mp e) λdb h2 e=>?_
 refine xE (eE S _ ra h1) λas r1=>?_
 refine xE (eE S _ rb h2) λbs r2=>?_
 split at e
 ·rename_i hs
  exact k da db as bs r1 r2 (and_eq_true_iff.mp hs).1 (and_eq_true_iff.mp hs).2 (Option.some.inj e).symm
 ·first |exact aG e |cases e
theorem OpR.eqB{op:Value->Value->Sem Value}{f:Bool->Bool}(h:∀ {A:Around}{s:Shared}{a b:Value}{da db:PyData}{as bs:List Addr}{Q:Value->Shared->Prop},Room r A->Reads s.heap a da as->Reads s.heap b db bs->PySem.SeqAt.shaped da=true->PySem.SeqAt.shaped db=true-> Q (.bool (f (PyData.eqv da db))) s->wpAny C.M A (op a b) Q NoE s):OpR C r op (bG f):=by
 refine OpR.of ?_
 intro A s ρ H a b va vb v H' hr S ra rb e
 refine xEA (map_eq_some_iff.mp e) λt e1 e2=>?_
 exact eqv_ok S ra rb e1 λda db as bs r1 r2 s1 s2 ht=>h hr r1 r2 s1 s2 (by cases e2;subst ht;exact .here S (.bool _))
theorem OpR.eq:OpR C r (compareOp .Eq) (bG id):=OpR.eqB λhr r1 r2 s1 s2 q=>eq_dataH r1 r2 s1 s2 hr.units q
theorem OpR.ne:OpR C r (compareOp .NotEq) (bG not):=OpR.eqB λhr r1 r2 s1 s2 q=>ne_dataH r1 r2 s1 s2 hr.units q
def tr(v:V)(H:MH):Option Bool:=match v with
 | .none=>some false
 | .bool b=>some b
 | .int i=>some (i != 0)
 | .str x=>if x.length<1000000 then some ((x.length:Int) != 0) else none
 | .ref i=>(lst H (.ref i)).bind λvs=>if vs.length<1000000 then some (!vs.isEmpty) else none
 |_=>none
noncomputable abbrev TF:=Lo->MH->(Bool->MH->Prop)->Prop
inductive k4(C:Cx)(ρ:List Lc)(s:Shared)(Q:Bool->MH->Prop)(b:Bool)(s':Shared):Prop
 |mk {ρ':List Lc}{H':MH} (S:Sim C H' ρ' s') (N:Nx ρ noW s ρ' s') (q:Q b H'):k4 C ρ s Q b s'
def TV(C:Cx)(r:Nat)(env:Env)(e:Expr)(f:TF):Prop:=∀ ⦃A:Around⦄⦃s:Shared⦄⦃ρ:List Lc⦄⦃H:MH⦄⦃lo:Lo⦄⦃Q:Bool->MH->Prop⦄,Room r A->Sim C H ρ s->Fm C env ρ s lo->f lo H Q->
  wpAny C.M A (isTrue e env (eval e env)) (k4 C ρ s Q) NoE s
theorem TV.run{e:Expr}{f:TF}(h:TV C r env e f){A:Around}{s:Shared}{ρ:List Lc}{H:MH}{lo:Lo}{Q:Bool->MH->Prop}{K:Bool->Shared->Prop}{E:Value->Shared->Prop}(hr:Room r A)(S:Sim C H ρ s)(F:Fm C env ρ s lo)(q:f lo H Q)(k:∀ {b s' ρ' H'},Sim C H' ρ' s'->Nx ρ noW s ρ' s'->Q b H'->K b s'):wpAny C.M A (isTrue e env (eval e env)) K E s:=wmN (h hr S F q) λ_ _ ⟨S,N,q⟩=>k S N q
theorem k4.from{ρ ρ1:List Lc}{s s1:Shared}{Q:Bool->MH->Prop}{b:Bool}{s':Shared}(N:Nx ρ noW s ρ1 s1)(p:k4 C ρ1 s1 Q b s'):k4 C ρ s Q b s':=let ⟨S,N',q⟩:=p;⟨S,N.trans N',q⟩
theorem v5{A:Around}{s:Shared}{ρ:List Lc}{H:MH}{u:Value}{v:V}{b:Bool}{E:Value->Shared->Prop}{K:Bool->Shared->Prop}(S:Sim C H ρ s)(rv:VR ρ s.heap u v)(e:tr v H=some b)(k:∀ n,K b {s with toks:=n}):wpAny C.M A (truthy u) K E s:=by
 cases v with
 |none=>cases e;cases(show u= .none from rv.inv);exact PyProof.Rows.truthy_none (k s.toks)
 |bool b'=>cases e;cases(show u= .bool b from rv.inv);exact wpAny_truthy_bool (k s.toks)
 |int i=>cases e;refine xE rv.inv λt z20=>?_;subst z20;exact truthy_int (k s.toks)
 |str x=>
  refine xE rv.inv λt z21=>?_;subst z21
  have e:(if x.length<1000000 then some ((x.length:Int) != 0) else none)=some b:=e
  by_cases hl:x.length<1000000
  ·rw[if_pos hl]at e
   have e:=Option.some.inj e
   subst e
   exact PySem.P.truthy_str (by omega) (k _)
  ·rw[if_neg hl]at e;cases e
 |ref g=>
  refine xEA (bind_eq_some_iff.mp e) λvs hl e=>?_
  refine bL (b5 S rv hl) λa xs z22 h2 h3=>?_;subst z22
  by_cases hlen:vs.length<1000000
  ·rw[if_pos hlen]at e
   have hsz:=h3.sz
   refine wpAny_truthy_list h2 (by omega) ?_
   have hb:(! xs.isEmpty)=b:=by
    rw[<-Option.some.inj e]
    unfold Array.isEmpty
    rw[hsz]
    cases vs<;>rfl
   exact hb▸k _
  ·rw[if_neg hlen]at e;cases e
 |_=>first |exact aG e |cases e
def tE(f:EF):TF:=λlo H Q=>f lo H λv H1=>Lf (tr v H1) λb=>Q b H1
theorem kG{A:Around}{s s1:Shared}{ρ ρ1:List Lc}{H:MH}{u:Value}{v:V}{Q:Bool->MH->Prop}{E:Value->Shared->Prop}(S:Sim C H ρ1 s1)(N:Nx ρ noW s ρ1 s1)(rv:VR ρ1 s1.heap u v)(e:Lf (tr v H) λb=>Q b H):wpAny C.M A (truthy u) (k4 C ρ s Q) E s1:=e.elim λb e q=>v5 S rv e λ_=>⟨S.toks _,N.trans (.toks _),q⟩
theorem TV.val{e:Expr}{f:EF}(h:EV C r env e f)(he:isTrue e env (eval e env)=(do let v<-eval e env;standAt e.pos;holding [v] (truthy v))):TV C r env e (tE f):=λ_ _ _ _ _ _ hr S F g=>wpAny_isTrue_value (h.run hr S F g λS1 N1 r1 q=>kG S1 N1 r1 q) he
def v9(f:TF):TF:=λlo H Q=>f lo H λb H'=>Q (!b) H'
theorem TV.not{e:Expr}{pos:Pos}{f:TF}(h:TV C r env e f):TV C r env (.UnaryOp .Not e pos) (v9 f):=λ_ _ _ _ _ _ hr S F g=>wpAny_isTrue_Not (h.run hr S F g λS N q=>⟨S,N,q⟩)
theorem TV.cmp1{e1 e2:Expr}{op:CmpOp}{pos:Pos}{f1 f2:EF}{g:OpF}(h1:EV C r env e1 f1)(h2:EV C r env e2 f2)(ho:OpR C r (compareOp op) g)(hm:behindInMarks op e2=false):TV C r env (.Compare e1 [op] [e2] pos) (tE (aB g f1 f2)):=λ_ _ _ _ _ _ hr S F q=>wpAny_isTrue_Compare1 (EV.two h1 h2 hr S F q λS2 N2 rx ry q=>bK.run (ho hr S2 rx ry q) λS3 N3 r3 q=>kG S3 (N2.trans N3) r3 q) hm
end
section
variable {C:Cx}{r:Nat}{env:Env}
def bV(f g:TF):TF:=λlo H Q=>f lo H λb H1=>bif b then g lo H1 Q else Q false H1
def tOr(f g:TF):TF:=λlo H Q=>f lo H λb H1=>bif b then Q true H1 else g lo H1 Q
def tK(b:Bool):TF:=λ_ H Q=>Q b H
def iM(C:Cx)(r:Nat)(env:Env)(op:BoolOp)(es:List Expr)(f:TF):Prop:=∀ ⦃A:Around⦄⦃s:Shared⦄⦃ρ:List Lc⦄⦃H:MH⦄⦃lo:Lo⦄⦃Q:Bool->MH->Prop⦄,Room r A->Sim C H ρ s->Fm C env ρ s lo->f lo H Q->
  wpAny C.M A (allTrue op es env) (k4 C ρ s Q) NoE s
theorem iM.and_nil:iM C r env .And [] (tK true):=λ_ _ _ _ _ _ _ S _ q=>wpAny_allTrue_And_nil ⟨S,.refl,q⟩
theorem iM.or_nil:iM C r env .Or [] (tK false):=λ_ _ _ _ _ _ _ S _ q=>wpAny_allTrue_Or_nil ⟨S,.refl,q⟩
theorem iM.and_cons{e:Expr}{es:List Expr}{f g:TF}(h:TV C r env e f)(hs:iM C r env .And es g):iM C r env .And (e::es) (bV f g):=λ_ _ _ _ _ _ hr S F q=>wpAny_allTrue_And_cons (h.run hr S F q λ{b _ _ _} S1 N1 q=>match b,q with
  |true,q=>wmN (hs hr S1 (F.nx N1) q) λ_ _ p=>p.from N1
  |false,q=>⟨S1,N1,q⟩)
theorem iM.or_cons{e:Expr}{es:List Expr}{f g:TF}(h:TV C r env e f)(hs:iM C r env .Or es g):iM C r env .Or (e::es) (tOr f g):=λ_ _ _ _ _ _ hr S F q=>wpAny_allTrue_Or_cons (h.run hr S F q λ{b _ _ _} S1 N1 q=>match b,q with
  |false,q=>wmN (hs hr S1 (F.nx N1) q) λ_ _ p=>p.from N1
  |true,q=>⟨S1,N1,q⟩)
theorem TV.boolOp{op:BoolOp}{es:List Expr}{pos:Pos}{f:TF}(h:iM C r env op es f):TV C r env (.BoolOp op es pos) f:=λ_ _ _ _ _ _ hr S F e=>wpAny_isTrue_BoolOp (h hr S F e)
def eIf(t:TF)(f g:EF):EF:=λlo H Q=>t lo H λb H1=>bif b then f lo H1 Q else g lo H1 Q
theorem EV.ifExp{t e1 e2:Expr}{pos:Pos}{ft:TF}{f1 f2:EF}(ht:TV C r env t ft)(h1:EV C r env e1 f1)(h2:EV C r env e2 f2):EV C r env (.IfExp t e1 e2 pos) (eIf ft f1 f2):=λ_ _ _ _ _ _ hr S F q=>wpAny_IfExp (ht.run hr S F q λ{b _ _ _} S1 N1 q=>match b,q with
  |true,q=>wmN (h1 hr S1 (F.nx N1) q) λ_ _ p=>p.from N1
  |false,q=>wmN (h2 hr S1 (F.nx N1) q) λ_ _ p=>p.from N1)
def i8(f:EF):EF:=λlo H Q=>f lo H λv H1=>Lf (Ti v) λi=>Q (.int (-i)) H1
theorem EV.neg{e:Expr}{pos:Pos}{f:EF}(h:EV C r env e f):EV C r env (.UnaryOp .USub e pos) (i8 f):=λ_ _ _ _ _ _ hr S F q=>wpAny_UnaryOp (h.run hr S F q λ{x s' _ _ _} S1 N1 r1 q=>q.elim λi e q=>VR.ti (P:=λx=>wpAny C.M _ (unaryOp .USub x) _ _ s') r1 e λt=>neg_int ⟨S1.toks _,N1.trans (.toks _),.int _ _,q⟩)
noncomputable abbrev EFs:=Lo->MH->(List V->MH->Prop)->Prop
def esN:EFs:=λ_ H Q=>Q [] H
def esC(f:EF)(g:EFs):EFs:=λlo H Q=>f lo H λv H1=>g lo H1 λvs H2=>Q (v::vs) H2
inductive t8(C:Cx)(ρ:List Lc)(s:Shared)(Q:List V->MH->Prop)(xs:List Value)(s':Shared):Prop
 |mk {ρ':List Lc}{vs:List V}{H':MH} (S:Sim C H' ρ' s') (N:Nx ρ noW s ρ' s') (r:VRs ρ' s'.heap xs vs) (q:Q vs H'):t8 C ρ s Q xs s'
def EVs(C:Cx)(r:Nat)(env:Env)(es:List Expr)(f:EFs):Prop:=∀ ⦃A:Around⦄⦃s:Shared⦄⦃ρ:List Lc⦄⦃H:MH⦄⦃lo:Lo⦄⦃Q:List V->MH->Prop⦄⦃pos:Pos⦄,Room r A->Sim C H ρ s->Fm C env ρ s lo->f lo H Q->
  wpAny C.M A (spliced (backTo pos (starEach es env))) (t8 C ρ s Q) NoE s
theorem EVs.nil:EVs C r env [] esN:=λ_ _ _ _ _ _ _ _ S _ q=>wpAny_items_nil ⟨S,.refl,.nil,q⟩
theorem EVs.cons{e:Expr}{es:List Expr}{f:EF}{g:EFs}(h:EV C r env e f)(hs:EVs C r env es g)(he:starEach (e::es) env=(false,eval e env)::starEach es env):EVs C r env (e::es) (esC f g):=λ_ _ _ _ _ _ _ hr S F q=>wpAny_items_cons (h.run hr S F q λS1 N1 r1 q=>wmN (hs hr S1 (F.nx N1) q) λ_ _ ⟨S2,N2,r2,q⟩=>⟨S2,N1.trans N2,.cons (r1.nx N2) r2,q⟩) he
def aW(g:EFs):EF:=λlo H Q=>g lo H λvs H1=>vs.length<100/\Q (.tup vs) H1
theorem EV.tuple{es:List Expr}{k:Nat}{pos:Pos}{g:EFs}(h:EVs C r env es g):EV C r env (.Tuple es k pos) (aW g):=λ_ _ _ _ _ _ hr S F q=>wpAny_Tuple (wmN (h hr S F q) λxs s1 ⟨S1,N1,r1,hl,q⟩=>⟨by rw[r1.length,sizeLine_eq];exact A2 hl,S1.push _,N1.trans (.push _),.tup (Heap.get?_push_size _ rfl) (by simpa using r1.mono (prefix_refl _) (eQ _ _)),q⟩)
def mkL(vs:List V)(H:MH):Option (V×MH):=if vs.length<1000000 then some (.ref H.length,H++[.list vs]) else none
theorem hN{vs:List V}{H:MH}{p:V×MH}{P:Prop}(e:mkL vs H=some p)(k:vs.length<1000000->p=(.ref H.length,H++[.list vs])->P):P:=by
 unfold mkL at e
 split at e
 ·rename_i h;exact k h (Option.some.inj e).symm
 ·first |exact aG e |cases e
def d9(g:EFs):EF:=λlo H Q=>g lo H λvs H1=>Lp (mkL vs H1) Q
theorem Sim.newList{H:MH}{ρ:List Lc}{s:Shared}{xs:Array Value}{vs:List V}(S:Sim C H ρ s)(hr:VRs ρ s.heap xs.toList vs):EPo C ρ s (H++[.list vs]) (.ref H.length) (.ref s.heap.objs.size) {s with heap:=s.heap.push {cls:=.type "list",data:=.seq xs}}:=by
 refine⟨ρ++[⟨s.heap.objs.size,s.heap.objs.size,none⟩],S.alloc {cls:=.type "list",data:=.seq xs} (.list vs) ⟨rfl,rfl,xs,0,Heap.get?_push_size _ rfl,hr.mono (prefix_append _ _) (eQ _ _)⟩,.alloc _,?_⟩
 exact VR.ref (l:=⟨s.heap.objs.size,s.heap.objs.size,none⟩) (by rw[<-S.len];simp)
theorem EV.list{es:List Expr}{pos:Pos}{g:EFs}(h:EVs C r env es g):EV C r env (.List es pos) (d9 g):=λ_ _ _ _ _ _ hr S F q=>wpAny_List (wmN (h hr S F q) λxs s1 ⟨S1,N1,r1,q⟩=>q.elim λp e q=>hN e λhl e=>by
  subst e
  exact⟨by rw[r1.length,sizeLine_eq];exact A3 hl,((S1.newList (by simpa using r1)).from N1).post q⟩)
def aI:OpF:=λa b H=>match Ti a,Ti b with
 |some x,some y=>some (.int (x+y),H)
 |_,_=>(lst H a).bind λxs=>(lst H b).bind λys=>mkL (xs++ys) H
theorem OpR.add:OpR C r (binaryOp .Add) aI:=by
 refine OpR.of ?_
 intro A s ρ H a b va vb v H' hr S ra rb e
 unfold aI at e
 split at e
 ·rename_i x y h1 h2
  cases e
  exact VR.ti (P:=λa=>wpAny C.M A (binaryOp .Add a b) _ _ _) ra h1 λt=>VR.ti (P:=λb=>wpAny C.M A (binaryOp .Add _ b) _ _ _) rb h2 λu=>add_int (.tok S (.int _ _))
 ·refine xEA (bind_eq_some_iff.mp e) λxs h1 e=>?_
  refine xEA (bind_eq_some_iff.mp e) λys h2 e=>?_
  refine hN e λhl e=>?_
  cases e
  refine bL (b5 S ra h1) λi us z23 o1 r1=>?_;subst z23
  refine bL (b5 S rb h2) λj us' z24 o2 r2=>?_;subst z24
  have e1:=r1.sz;have e2:=r2.sz
  rw[length_append]at hl
  obtain⟨⟨cls,dd,data,sl⟩,ho,hc,n,hd⟩:=o1
  obtain⟨⟨cls2,dd2,data2,sl2⟩,ho2,hc2,n2,hd2⟩:=o2
  cases hc;cases hd;cases hc2;cases hd2
  exact concat_meets ⟨_,ho,rfl⟩ ⟨_,ho2,rfl⟩ noFill_list_add seq_list_add PySem.F.slot_list_add PySem.F.entry_list_add (PySem.F.args_list_add_2 _ _) (list_addW i j us us' n n2 dd dd2 sl sl2 (by rw[sizeLine_eq];exact A4 hl e1 e2)) ⟨ho,ho2,S.newList (by rw[Array.toList_append];exact r1.append r2)⟩
end
section
variable {C:Cx}{r:Nat}{env:Env}
inductive Fl where
 |next |brk |cont |ret (v:V)
inductive FlR(ρ:List Lc)(h:Heap):Flow->Fl->Prop
 |next:FlR ρ h .next .next
 |brk:FlR ρ h .brk .brk
 |cont:FlR ρ h .cont .cont
 |ret {u v} (r:VR ρ h u v):FlR ρ h (.ret u) (.ret v)
noncomputable abbrev SK:=Fl->Lo->MH->Prop
noncomputable abbrev SF:=Lo->MH->SK->Prop
inductive k7(C:Cx)(env:Env)(ρ:List Lc)(s:Shared)(Q:SK)(f:Flow)(s':Shared):Prop
 |mk {ρ':List Lc}{fl:Fl}{lo':Lo}{H':MH} (S:Sim C H' ρ' s') (N:Nx ρ (Wr env) s ρ' s') (F:Fm C env ρ' s' lo') (r:FlR ρ' s'.heap f fl) (q:Q fl lo' H'):k7 C env ρ s Q f s'
def SV(C:Cx)(r:Nat)(env:Env)(st:Stmt)(f:SF):Prop:=∀ ⦃A:Around⦄⦃s:Shared⦄⦃ρ:List Lc⦄⦃H:MH⦄⦃lo:Lo⦄⦃Q:SK⦄,Room r A->Sim C H ρ s->Fm C env ρ s lo->f lo H Q->
  wpAny C.M A (exec st env) (k7 C env ρ s Q) NoE s
def SVs(C:Cx)(r:Nat)(env:Env)(st:List Stmt)(f:SF):Prop:=∀ ⦃A:Around⦄⦃s:Shared⦄⦃ρ:List Lc⦄⦃H:MH⦄⦃lo:Lo⦄⦃Q:SK⦄,Room r A->Sim C H ρ s->Fm C env ρ s lo->f lo H Q->
  wpAny C.M A (execs st env) (k7 C env ρ s Q) NoE s
theorem k7.from{ρ ρ1:List Lc}{s s1:Shared}{Q:SK}{f:Flow}{s':Shared}(N:Nx ρ (Wr env) s ρ1 s1)(p:k7 C env ρ1 s1 Q f s'):k7 C env ρ s Q f s':=let ⟨S,N',F,r,q⟩:=p;⟨S,N.trans N',F,r,q⟩
theorem Nx.wr{ρ ρ':List Lc}{s s':Shared}{W:Addr->Prop}(N:Nx ρ noW s ρ' s'):Nx ρ W s ρ' s':=N.weaken λ_ q=>q.elim
def upd(lo:Lo)(x:Str)(v:V):Lo:=λy=>if y=x then some v else lo y
theorem cZ{h h':Heap}{a:Addr}{o:Obj}(hs:Heap.SameBut a h h')(ho:h.get? a=some o)(hi: ¬aV o):Imm h h':=λb x e i=>by
 by_cases q:b=a
 ·subst q;rw[ho]at e;cases e;exact absurd i hi
 ·rw[hs.2 b q];exact e
theorem Sim.side{H:MH}{ρ:List Lc}{s:Shared}{h':Heap}{k:Nat}{a:Addr}{o:Obj}(S:Sim C H ρ s)(hs:Heap.SameBut a s.heap h')(ho:s.heap.get? a=some o)(hi: ¬aV o)(hown: ¬Own ρ a)(hb:C.base.heap.get? a=none):Sim C H ρ {s with heap:=h',toks:=k}:=by
 refine S.same (λb x e q=>?_) (cZ hs ho hi) (λ_ _ e=>e) rfl S.bare
 have:b≠a:=by
  rintro rfl
  refine Or.elim q (λq=>?_) λq=>?_
  ·exact hown q
  ·rw[hb]at q;cases q
 show h'.get? b=some x
 rw[hs.2 b this];exact e
theorem Nx.side{ρ:List Lc}{W:Addr->Prop}{s:Shared}{h':Heap}{k:Nat}{a:Addr}{o:Obj}(hs:Heap.SameBut a s.heap h')(ho:s.heap.get? a=some o)(hi: ¬aV o)(hw:W a)(ha:∃ o',h'.get? a=some o'):Nx ρ W s ρ {s with heap:=h',toks:=k}:=⟨prefix_refl _,λl hl=>by simp at hl,λb x e _ hb=>by
  have:b≠a:=by rintro rfl;exact hb hw
  show h'.get? b=some x
  rw[hs.2 b this];exact e,cZ hs ho hi,λb x e=>by
  by_cases q:b=a
  ·rw[q];exact ha
  ·exact⟨x,by show h'.get? b=some x;rw[hs.2 b q];exact e⟩⟩
inductive d3(C:Cx)(env:Env)(W:Addr->Prop)(ρ:List Lc)(s:Shared)(Q:Lo->MH->Prop)(u:Unit)(s':Shared):Prop
 |mk {ρ':List Lc}{lo':Lo}{H':MH} (S:Sim C H' ρ' s') (N:Nx ρ W s ρ' s') (F:Fm C env ρ' s' lo') (q:Q lo' H'):d3 C env W ρ s Q u s'
theorem d3.from{W:Addr->Prop}{ρ ρ1:List Lc}{s s1:Shared}{Q:Lo->MH->Prop}{s':Shared}{x:Unit}(N:Nx ρ W s ρ1 s1)(p:d3 C env W ρ1 s1 Q x s'):d3 C env W ρ s Q x s':=let ⟨S,N',F,q⟩:=p;⟨S,N.trans N',F,q⟩
theorem d3.run{α:Type}{W:Addr->Prop}{M:Model}{A:Around}{t:Sem Unit}{ρ:List Lc}{s:Shared}{Q:Lo->MH->Prop}{K:Unit->Shared->Prop}{E:Value->Shared->Prop}(h:wpAny M A t (d3 C env W ρ s Q) NoE s)(k:∀ {x s' ρ' lo' H'},Sim C H' ρ' s'->Nx ρ W s ρ' s'->Fm C env ρ' s' lo'->Q lo' H'->K x s'):wpAny M A t K E s:=wmN h λ_ _ ⟨S,N,F,q⟩=>k S N F q
theorem fP{A:Around}{s:Shared}{ρ:List Lc}{H:MH}{lo:Lo}{x:Str}{u:Value}{v:V}{W:Addr->Prop}{K:Unit->Shared->Prop}{E:Value->Shared->Prop}(S:Sim C H ρ s)(F:Fm C env ρ s lo)(rv:VR ρ s.heap u v)(hk:(env.kindOf x=some .local/\W env.locals)\/(env.kindOf x=some .cell/\∀ c,env.cells.lookup x=some c->W c)) (k:∀ s',Sim C H ρ s'->Nx ρ W s ρ s'->Fm C env ρ s' (upd lo x v)->K () s'):wpAny C.M A (storeName env x u) K E s:=by
 rcases hk with ⟨hk,hW⟩ |⟨hk,hW⟩
 ·refine xEA F.ns λm hns hm=>?_
  refine fF (id hns) λo es ep ho hd hr=>?_
  have hi: ¬aV o:=by unfold aV;rw[hd];exact id
  refine wpAny_storeName_local hk hns (λh' hn hs=>?_) (by rw[F.fn];rfl)
  have fw:=F.own _ (.inl rfl)
  have im:=cZ hs ho hi
  refine k _ (S.side hs ho hi fw.1 fw.2) (.side hs ho hi hW (let ⟨o2,_,_,g,_⟩:=hn;⟨o2,g⟩)) ⟨F.fn,F.gl,F.bi,⟨_,hn,λy hy=>?_⟩,λy hy=>?_,F.own,F.dis,F.inj,λb hb=>?_⟩
  ·by_cases q:y=x
   ·simp only[upd,if_pos q];exact rv.mono (prefix_refl _) im
   ·simp only[upd,if_neg q];exact(hm y hy).mono (prefix_refl _) im
  ·refine cH (F.cl y hy) λc o' u' h1 h2 h3 h4=>?_
   have q:y≠x:=by rintro rfl;rw[hk]at hy;refine Or.elim hy (λhy=>?_) λhy=>?_<;>cases hy
   exact⟨c,o',u',h1,(hs.2 c (F.dis y c h1)).trans h2,h3,by simp only[upd,if_neg q];exact h4.mono (prefix_refl _) im⟩
  ·by_cases q:b=env.locals
   ·refine gS hn λo2 _ _ g _=>?_;rw[q];exact⟨o2,g⟩
   ·refine xE (F.alv b hb) λo2 g=>?_;exact⟨o2,(hs.2 b q).trans g⟩
 ·refine cH (F.cl x (.inl hk)) λc o u' h1 h2 h3 h4=>?_
  have hi: ¬aV o:=by unfold aV;rw[h3];exact id
  refine wpAny_storeName_cell F.fn hk h1 ⟨o,h2,h3⟩ (λh' hc hs=>?_)
  have fw:=F.own c (.inr ⟨x,h1⟩)
  have im:=cZ hs h2 hi
  refine k _ (S.side (k:=s.toks) hs h2 hi fw.1 fw.2) (.side (k:=s.toks) hs h2 hi (hW c h1) (let ⟨o2,g,_⟩:=hc;⟨o2,g⟩)) ⟨F.fn,F.gl,F.bi,?_,λy hy=>?_,F.own,F.dis,F.inj,λb hb=>?_⟩
  ·refine xEA F.ns λm hns hm=>?_
   refine⟨m,hns.sameBut hs (Ne.symm (F.dis x c h1)),λy hy=>?_⟩
   have q:y≠x:=by rintro rfl;rw[hk]at hy;cases hy
   simp only[upd,if_neg q];exact(hm y hy).mono (prefix_refl _) im
  ·by_cases q:y=x
   ·refine xEA hc λo2 g1 g2=>?_
    exact⟨c,o2,some u,q▸h1,g1,g2,by simp only[upd,if_pos q];exact rv.mono (prefix_refl _) im⟩
   ·refine cH (F.cl y hy) λc' o' u'' g1 g2 g3 g4=>?_
    exact⟨c',o',u'',g1,(hs.2 c' (λz=>q (F.inj y x c' g1 (z▸h1)))).trans g2,g3,by simp only[upd,if_neg q];exact g4.mono (prefix_refl _) im⟩
  ·by_cases q:b=c
   ·refine xEA hc λo2 g _=>?_;rw[q];exact⟨o2,g⟩
   ·refine xE (F.alv b hb) λo2 g=>?_;exact⟨o2,(hs.2 b q).trans g⟩
theorem qW{x:Str}(hk:env.kindOf x=some .local\/env.kindOf x=some .cell):(env.kindOf x=some .local/\Wr env env.locals)\/(env.kindOf x=some .cell/\∀ c,env.cells.lookup x=some c->Wr env c):=hk.imp (λh=>⟨h,.inl rfl⟩) λh=>⟨h,λ_ e=>.inr ⟨_,e⟩⟩
theorem xY{A:Around}{s:Shared}{ρ:List Lc}{H:MH}{lo:Lo}{x:Str}{u:Value}{v:V}{Q:Lo->MH->Prop}(S:Sim C H ρ s)(F:Fm C env ρ s lo)(rv:VR ρ s.heap u v)(hk:env.kindOf x=some .local\/env.kindOf x=some .cell)(q:Q (upd lo x v) H):wpAny C.M A (storeName env x u) (d3 C env (Wr env) ρ s Q) NoE s:=fP S F rv (qW hk) λ_ S N F=>⟨S,N,F,q⟩
def sK(fl:Fl):SF:=λlo H Q=>Q fl lo H
theorem SV.pass{pos}:SV C r env (.Pass pos) (sK .next):=λ_ _ _ _ _ _ _ S F q=>wpAny_Pass ⟨S,.refl,F,.next,q⟩
theorem SV.brk{pos}:SV C r env (.Break pos) (sK .brk):=λ_ _ _ _ _ _ _ S F q=>wpAny_Break ⟨S,.refl,F,.brk,q⟩
theorem SV.cont{pos}:SV C r env (.Continue pos) (sK .cont):=λ_ _ _ _ _ _ _ S F q=>wpAny_Continue ⟨S,.refl,F,.cont,q⟩
def f7(f:EF):SF:=λlo H Q=>f lo H λv H1=>Q (.ret v) lo H1
theorem SV.ret{e:Expr}{pos}{f:EF}(h:EV C r env e f):SV C r env (.Return (some e) pos) (f7 f):=λ_ _ _ _ _ _ hr S F q=>wpAny_Return_some (h.run hr S F q λS1 N1 r1 q=>⟨S1,N1.wr,F.nx N1,.ret r1,q⟩)
theorem SV.ret0{pos}:SV C r env (.Return none pos) (sK (.ret .none)):=λ_ _ _ _ _ _ _ S F q=>wpAny_Return_none ⟨S,.refl,F,.ret .none,q⟩
def aZ(x:Str)(f:EF):SF:=λlo H Q=>f lo H λv H1=>Q .next (upd lo x v) H1
theorem SV.assign{x:Str}{e:Expr}{pos pos'}{f:EF}(h:EV C r env e f)(hk:env.kindOf x=some .local\/env.kindOf x=some .cell)(hs:swapsWith e (some (.Name x pos')) pos.line env=pure false):SV C r env (.Assign [.Name x pos'] e pos) (aZ x f):=λ_ _ _ _ _ _ hr S F q=>wpAny_Assign_Name (h.run hr S F q λS1 N1 r1 q=>fP S1 (F.nx N1) r1 (qW hk) λ_ S2 N2 F2=>⟨S2,N1.wr.trans N2,F2,.next,q⟩) hs
def sIf(t:TF)(f g:SF):SF:=λlo H Q=>t lo H λb H1=>bif b then f lo H1 Q else g lo H1 Q
theorem SV.ite{t:Expr}{b1 b2:List Stmt}{pos}{ft:TF}{f g:SF}(ht:TV C r env t ft)(h1:SVs C r env b1 f)(h2:SVs C r env b2 g):SV C r env (.If t b1 b2 pos) (sIf ft f g):=λ_ _ _ _ _ _ hr S F q=>wpAny_If (ht.run hr S F q λ{b _ _ _} S1 N1 q=>match b,q with
  |true,q=>wmN (h1 hr S1 (F.nx N1) q) λ_ _ p=>p.from N1.wr
  |false,q=>wmN (h2 hr S1 (F.nx N1) q) λ_ _ p=>p.from N1.wr)
def bE(g:SF)(Q:SK):SK:=λfl lo H=>match fl with | .next=>g lo H Q |fl=>Q fl lo H
def aA(f g:SF):SF:=λlo H Q=>f lo H (bE g Q)
theorem SVs.nil:SVs C r env [] (sK .next):=λ_ _ _ _ _ _ _ S F q=>wpAny_execs_nil ⟨S,.refl,F,.next,q⟩
theorem SVs.cons{st:Stmt}{rest:List Stmt}{f g:SF}(h:SV C r env st f)(hs:SVs C r env rest g):SVs C r env (st::rest) (aA f g):=by
 intro A s ρ H lo Q hr S F q
 rw[execs_cons]
 refine zzB (wmN (h hr S F q) λfw s1 p=>?_)
 obtain⟨S1,N1,F1,r1,q⟩:=p
 cases r1 with
 |next=>exact wmN (hs hr S1 F1 q) λ_ _ p=>p.from N1
 |brk=>exact zzP ⟨S1,N1,F1,.brk,q⟩
 |cont=>exact zzP ⟨S1,N1,F1,.cont,q⟩
 |ret r1=>exact zzP ⟨S1,N1,F1,.ret r1,q⟩
end
section
variable {C:Cx}{r:Nat}{env:Env}
theorem Sim.ext{H:MH}{ρ:List Lc}{s:Shared}{h':Heap}{k:Nat}(S:Sim C H ρ s)(hk:∀ b o,s.heap.get? b=some o->h'.get? b=some o):Sim C H ρ {s with heap:=h',toks:=k}:=S.same (λb o e _=>hk b o e) (dX hk) (λ_ _ e=>e) rfl S.bare
theorem Nx.ext{ρ:List Lc}{W:Addr->Prop}{s:Shared}{h':Heap}{k:Nat}(hk:∀ b o,s.heap.get? b=some o->h'.get? b=some o):Nx ρ W s ρ {s with heap:=h',toks:=k}:=⟨prefix_refl _,λl hl=>by simp at hl,λb o e _ _=>hk b o e,dX hk,λb o e=>⟨o,hk b o e⟩⟩
theorem tN{h h':Heap}(e:Heap.ExtBut h.objs.size h h'):∀ b o,h.get? b=some o->h'.get? b=some o:=λb o q=>e b o (ne_of_lt (Heap.lt_size q)) q
def at_(k:Int)(vs:List V):Option V:=if-1000000<k/\k<1000000 then(seqIndex? k vs.length).bind λj=>vs[j]? else none
def V.tp:V->Option (List V) | .tup vs=>some vs |_=>Option.none
def aR:OpF:=λa b H=>(Ti b).bind λk=>(match a.tp with |some vs=>at_ k vs |none=>(lst H a).bind (at_ k)).map λv=>(v,H)
theorem sS{k:Int}{n j:Nat}(h:seqIndex? k n=some j):(0<=k/\j=k.toNat/\j<n)\/(k<0/\ -(n:Int)<=k/\j=(k+n).toNat/\j<n):=by
 unfold seqIndex? at h
 by_cases q:k<0
 ·simp only[q,if_true]at h
  split at h
  ·rename_i g;cases h;simp at g;right;exact A5 g
  ·cases h
 ·simp only[q,if_false]at h
  split at h
  ·rename_i g;cases h;simp at g;left;exact A6 g
  ·cases h
theorem vW{k:Int}{vs:List V}{v:V}{P:Prop}(e:at_ k vs=some v)(h:∀ j,-1000000<k->k<1000000->seqIndex? k vs.length=some j->vs[j]? =some v->P):P:=by
 unfold at_ at e
 split at e
 ·rename_i hk
  refine xEA (bind_eq_some_iff.mp e) λj h1 h2=>?_
  exact h j hk.1 hk.2 h1 h2
 ·first |exact aG e |cases e
theorem VR.toTup{ρ:List Lc}{h:Heap}{u:Value}{v:V}{vs:List V}(r:VR ρ h u v)(e:v.tp=some vs):∃ a xs n,v= .tup vs/\u= .ref a/\h.get? a=some {cls:=.type "tuple",data:=.seq xs n}/\VRs ρ h xs.toList vs:=by
 cases v with
 |tup ws=>cases e;refine fF r.inv λa xs n h1 h2 h3=>?_;exact⟨a,xs,n,rfl,h1,h2,h3⟩
 |_=>first |exact aG e |cases e
theorem mD{A:Around}{s:Shared}{ρ:List Lc}{H:MH}{a b:Value}{va vb v:V}{H':MH}(S:Sim C H ρ s)(ra:VR ρ s.heap a va)(rb:VR ρ s.heap b vb)(e:aR va vb H=some (v,H')):H'=H/\∃ x,VR ρ s.heap x v/\(∀ Q:Value->Shared->Prop,Q x s->wpAny C.M A (getItem a b) Q NoE s)/\∃ T id,s.TypeIs a T/\typeLookup (.type T) "__getitem__" =pure (some (.builtin id)):=by
 refine xEA (bind_eq_some_iff.mp e) λk hb e1=>?_
 refine xEA (map_eq_some_iff.mp e1) λw e3 e2=>?_
 clear e e1
 cases e2
 refine VR.ti (P:=λb=>H=H/\∃ x,VR ρ s.heap x v/\(∀ Q:Value->Shared->Prop,Q x s->wpAny C.M A (getItem a b) Q NoE s)/\∃ T id,s.TypeIs a T/\typeLookup (.type T) "__getitem__" =pure (some (.builtin id))) rb hb λt=>⟨rfl,?_⟩
 split at e3
 ·rename_i vs hvs
  refine cH (ra.toTup hvs) λad xs n _ z25 g rs=>?_;subst z25
  refine vW e3 λj h1 h2 hj hv=>?_
  refine xEA (rs.get hv) λx hx rx=>?_
  refine⟨x,rx,λQ q=>?_,"tuple",_,⟨_,g,rfl⟩,slot_tuple_getitem.lookup⟩
  exact PyProof.Rows.getItem_tuple ⟨_,g,rfl,_,rfl⟩ (by omega) (by omega) (by rw[rs.sz];exact hj) (by simpa using hx) q
 ·refine xEA (bind_eq_some_iff.mp e3) λvs hl e4=>?_
  refine bL (b5 S ra hl) λad xs z26 h2 h3=>?_;subst z26
  have hlen:=h3.sz
  refine vW e4 λj k1 k2 hj hv=>?_
  refine xEA (h3.get hv) λx hx rx=>?_
  refine⟨x,rx,λQ q=>?_,"list",_,h2.typeIs,slot_list_getitem.lookup⟩
  rcases sS hj with ⟨h0,rfl,hlt⟩ |⟨h0,h1,rfl,hlt⟩
  ·exact wpAny_getItem_list h2 h0 (by omega) (by simpa using hx) q
  ·exact wpAny_getItem_list_neg h2 h0 (A7 hlen h1) (by omega) (by rw[hlen];simpa using hx) q
theorem EV.idx{e1 e2:Expr}{pos:Pos}{f1 f2:EF}(h1:EV C r env e1 f1)(h2:EV C r env e2 f2)(hs:∀ o i,∃ ops,subscripted e2 false o i=operate ops (getItem o i)):EV C r env (.Subscript e1 e2 pos) (aB aR f1 f2):=λ_ _ _ _ _ _ hr S F q=>Subscript_ (EV.two h1 h2 hr S F q λ{x y s2 _ _ _ _} S2 N2 rx ry q=>q.elim λp e q=>by
  obtain⟨hH,z,rz,hz,T,id,hT,hl⟩:=mD (A:=_) S2 rx ry e
  refine xE (hs x y) λops ho=>?_
  exact tail_any hT hl (hz _ ⟨S2,N2,rz,hH▸q⟩) ho)
noncomputable abbrev AF:=V->Lo->MH->(Lo->MH->Prop)->Prop
def AVW(C:Cx)(W:Env->Addr->Prop)(r:Nat)(env:Env)(t:Expr)(f:AF):Prop:=∀ ⦃A:Around⦄⦃s:Shared⦄⦃ρ:List Lc⦄⦃H:MH⦄⦃lo:Lo⦄⦃u:Value⦄⦃v:V⦄⦃Q:Lo->MH->Prop⦄,Room r A->Sim C H ρ s->Fm C env ρ s lo->VR ρ s.heap u v->f v lo H Q->
  wpAny C.M A (assign t env u) (d3 C env (W env) ρ s Q) NoE s
noncomputable abbrev AV(C:Cx)(r:Nat)(env:Env)(t:Expr)(f:AF):Prop:=AVW C Wr r env t f
def aN(x:Str):AF:=λv lo H Q=>Q (upd lo x v) H
theorem AV.name{x:Str}{pos}(hk:env.kindOf x=some .local\/env.kindOf x=some .cell):AV C r env (.Name x pos) (aN x):=λ_ _ _ _ _ _ _ _ _ S F rv q=>wpAny_assign_Name (xY S F rv hk q)
noncomputable abbrev AFs:=List V->Lo->MH->(Lo->MH->Prop)->Prop
def mS(C:Cx)(W:Env->Addr->Prop)(r:Nat)(env:Env)(ts:List Expr)(f:AFs):Prop:=∀ ⦃A:Around⦄⦃s:Shared⦄⦃ρ:List Lc⦄⦃H:MH⦄⦃lo:Lo⦄⦃us:List Value⦄⦃vs:List V⦄⦃Q:Lo->MH->Prop⦄,Room r A->Sim C H ρ s->Fm C env ρ s lo->VRs ρ s.heap us vs->f vs lo H Q->
  wpAny C.M A (assignInOrder ((assignEach ts env).map (·.2)) us) (d3 C env (W env) ρ s Q) NoE s
noncomputable abbrev AVs(C:Cx)(r:Nat)(env:Env)(ts:List Expr)(f:AFs):Prop:=mS C Wr r env ts f
def asN:AFs:=λvs lo H Q=>match vs with | []=>Q lo H |_=>False
def asC(f:AF)(g:AFs):AFs:=λvs lo H Q=>match vs with
 |v::vs=>f v lo H λlo1 H1=>g vs lo1 H1 Q
 | []=>False
variable {W:Env->Addr->Prop}
theorem mS.nil:mS C W r env [] asN:=by
 intro A s ρ H lo us vs Q hr S F rv e
 cases rv with
 |nil=>exact zzP ⟨S,.refl,F,e⟩
 |cons _ _=>exact e.elim
theorem mS.cons{t:Expr}{ts:List Expr}{f:AF}{g:AFs}(h:AVW C W r env t f)(hs:mS C W r env ts g)(he:assignEach (t::ts) env=(false,assign t env)::assignEach ts env):mS C W r env (t::ts) (asC f g):=by
 intro A s ρ H lo us vs Q hr S F rv e
 cases rv with
 |nil=>exact e.elim
 |cons a b=>
  rename_i u us v vs
  rw[he]
  show wpAny C.M A (do holding us (assign t env u);assignInOrder ((assignEach ts env).map (·.2)) us) _ _ s
  exact zzB (wpAny_holding (d3.run (α:=Unit) (h hr S F a e) λS1 N1 F1 q=>wmN (hs hr S1 F1 (b.nx N1) q) λ_ _ p=>p.from N1))
section
variable {prog:Program}{w:World}{A:Around}{E:Value->Shared->Prop}{s:Shared}
theorem n8{it t:Addr}{items:Array Value}(hne:t≠it):∀ (n i:Nat) (s:Shared) (Q:List Value->Shared->Prop),s.heap.IsListIter it t i->s.heap.IsList t items->i+n<=items.size-> (∀ h',h'.IsListIter it t (i+n)->Heap.SameBut it s.heap h'->Q ((items.toList.drop i).take n) {s with heap:=h'})->wpAny (model prog w) A (draw (.ref it) n) Q E s
 |0,i,s,Q,hit,_,_,hQ=>by
  show wpAny _ _ (pure []) Q E s
  exact zzP (by simpa using hQ s.heap hit (Heap.SameBut.refl ..))
 |n+1,i,s,Q,hit,ht,hle,hQ=>by
  have hlt:i<items.size:=by omega
  show wpAny _ _ (pyNext (.ref it) >>=_) Q E s
  refine zzB (wpAny_pyNext_list_item hit ht (x:=items[i]) (by simp [hlt]) λh₁ hit₁ hs₁=>?_)
  refine zzB (wpAny_holding (n8 hne n (i+1) _ _ hit₁ (ht.extBut hs₁.extBut hne) (by omega) λh₂ hit₂ hs₂=>zzP ?_))
  have hd:items.toList.drop i=items[i]::items.toList.drop (i+1):=by simp [List.drop_eq_getElem_cons,hlt]
  have:=hQ h₂ (by rw[show i+(n+1)=i+1+n by omega];exact hit₂) (hs₁.trans hs₂)
  rw[hd,List.take_succ_cons]at this
  exact this
theorem jU{t:Addr}{items:Array Value}{Q:List Value->Shared->Prop}(hh:A.handled=none)(ht:s.heap.IsList t items)(hQ:∀ h',Heap.ExtBut s.heap.objs.size s.heap h'->Q items.toList {s with heap:=h'}):wpAny (model prog w) A (unpackItems (.ref t) items.size none) Q E s:=by
 have hlt:t≠s.heap.objs.size:=by obtain⟨o,ho,_⟩:=ht;exact ne_of_lt (Heap.lt_size ho)
 unfold unpackItems
 refine zzB ?_
 unfold notIterableAtAll
 refine zzB (wpAny_specialOf ht.typeIs slot_list_iter.lookup ?_)
 refine zzP ?_
 simp only[false_eq_true,if_false]
 refine zzB (wpAny_holding (wpAny_pyIter_list ht ?_))
 refine zzB (wpAny_holding (n8 hlt items.size 0 _ _ ⟨_,Heap.get?_push_size _ rfl,rfl,rfl⟩ (ht.push _) (by omega) λh₁ hit₁ hs₁=>?_))
 have hall:List.take items.size (List.drop 0 items.toList)=items.toList:=by
  rw[List.drop_zero];exact List.take_of_length_le (by simp)
 rw[hall]
 rw[if_neg (by simp)]
 have ht₁:h₁.IsList t items:=(ht.push _).extBut hs₁.extBut hlt
 refine zzB (wpAny_holding (wpAny_pyNext_list_end hh hit₁ ht₁ (by simp) λh₂ he₂=>?_))
 simp only[Option.isSome_none,false_eq_true,if_false]
 refine zzP (hQ h₂ λb o hb e=>he₂ b o hb (hs₁.extBut b o hb (Heap.get?_push_of_some _ e)))
theorem sI{env:Env}{elts:List Expr}{x1}{pos:Pos}{t:Addr}{items:Array Value}{Q:Unit->Shared->Prop}(hh:A.handled=none)(ht:s.heap.IsList t items)(hn:(assignEach elts env).length=items.size) (hstar:(assignEach elts env).findIdx? (·.1)=none)(h:∀ h',Heap.ExtBut s.heap.objs.size s.heap h'->wpAny (model prog w) A (assignInOrder ((assignEach elts env).map (·.2)) items.toList) Q E {s with heap:=h'}):
  wpAny (model prog w) A (assign (.Tuple elts x1 pos) env (.ref t)) Q E s:=by
 rw[PyProof.Rows.assign_Tuple]
 refine zzB (wpAny_standAt ?_)
 unfold unpack
 rw[hn,hstar]
 exact zzB (wpAny_holding (jU hh ht h))
end
def V.sq(H:MH):V->Option (List V) | .tup vs=>some vs | .ref i=>lst H (.ref i) |_=>Option.none
def t5(n:Nat)(g:AFs):AF:=λv lo H Q=>Lf (v.sq H) λvs=>vs.length=n/\g vs lo H Q
theorem AVW.tuple{ts:List Expr}{k:Nat}{pos}{n:Nat}{g:AFs}(h:mS C W r env ts g)(hn:(assignEach ts env).length=n)(hstar:(assignEach ts env).findIdx? (·.1)=none):AVW C W r env (.Tuple ts k pos) (t5 n g):=λA s ρ H lo u v Q hr S F rv e=>e.elim λvs hv e2=>by
  cases v with
  |tup ws=>
   cases hv
   refine cH (rv.toTup rfl) λa xs nn _ z27 gt rs=>?_;subst z27
   refine assign_Tuple_tuple hr.1 ⟨_,gt,rfl,_,rfl⟩ (by rw[hn,rs.sz];exact e2.1.symm) hstar λh' he=>?_
   have hk:=tN he
   exact wmN (h hr (S.ext (k:=s.toks) hk) (F.nx (.ext hk)) (rs.mono (prefix_refl _) (dX hk)) e2.2) λ_ _ p=>p.from (.ext hk)
  |ref i=>
   refine bL (b5 S rv hv) λa xs z27 gt rs=>?_;subst z27
   refine sI hr.1 gt (by rw[hn,rs.sz];exact e2.1.symm) hstar λh' he=>?_
   have hk:=tN he
   exact wmN (h hr (S.ext (k:=s.toks) hk) (F.nx (.ext hk)) (rs.mono (prefix_refl _) (dX hk)) e2.2) λ_ _ p=>p.from (.ext hk)
  |_=>first |exact aG hv |cases hv
end
section
variable {C:Cx}{r:Nat}{env:Env}
structure NxI(ρ:List Lc)(X:Addr->Prop)(s:Shared)(ρ':List Lc)(s':Shared):Prop where
 pre:ρ<+:ρ'
 new:∀ l∈ρ'.drop ρ.length,s.heap.get? l.a=none/\s.heap.get? l.d=none
 kp:∀ b o,s.heap.get? b=some o->¬Own ρ b->¬X b->s'.heap.get? b=some o
 imm:Imm s.heap s'.heap
 al:∀ b o,s.heap.get? b=some o->¬X b->∃ o',s'.heap.get? b=some o'
noncomputable abbrev NK(σ:Type):=Option (V×σ)->MH->Prop
inductive mP(C:Cx){σ:Type}(mid:List Lc->Shared->σ->Value->Value->(Addr->Prop)->Prop)(ρ:List Lc)(s:Shared)(X:Addr->Prop)(x:Value)(Q:NK σ):Option Value->Shared->Prop
 |done {s' ρ' H'} (S:Sim C H' ρ' s') (I:NxI ρ X s ρ' s') (q:Q none H'):mP C mid ρ s X x Q none s'
 |item {s' ρ' H' v it' u} (S:Sim C H' ρ' s') (I:NxI ρ X s ρ' s') (r:VR ρ' s'.heap u v) (m:mid ρ' s' it' u x X) (q:Q (some (v,it')) H'):mP C mid ρ s X x Q (some u) s'
structure ItK(C:Cx) where
 σ:Type
 nx:σ->MH->NK σ->Prop
 rel:List Lc->Shared->σ->Value->(Addr->Prop)->Prop
 mid:List Lc->Shared->σ->Value->Value->(Addr->Prop)->Prop
 tg:Expr->Prop
 need:Nat
 mono:∀ {ρ ρ' s s' it x X},rel ρ s it x X->ρ<+:ρ'->Imm s.heap s'.heap->(∀ b o,X b->s.heap.get? b=some o->s'.heap.get? b=some o)->rel ρ' s' it x X
 alive:∀ {ρ s it x X},rel ρ s it x X->∀ b,X b->∃ o,s.heap.get? b=some o
 next:∀ {A:Around}{s ρ H it x X}{Q:NK σ}{r:Nat},need<=r->Room r A->Sim C H ρ s->rel ρ s it x X->(∀ b,X b->¬Own ρ b/\C.base.heap.get? b=none)->nx it H Q->
  wpAny C.M A (pyNext x) (mP C mid ρ s X x Q) NoE s
 lgo:∀ {A:Around}{s ρ H it x X u}{target:Expr}{r:Nat},Room r A->Sim C H ρ s->mid ρ s it u x X->tg target->(∀ b,X b->¬Own ρ b/\C.base.heap.get? b=none)->
  wpAny C.M A (letOwnedTupleGo target x u) (λ_ s'=>Sim C H ρ s'/\NxI ρ X s ρ s'/\rel ρ s' it x X) NoE s
noncomputable abbrev IF(K:ItK C):=Lo->MH->(K.σ->MH->Prop)->Prop
inductive t7(K:ItK C)(ρ:List Lc)(s:Shared)(Q:K.σ->MH->Prop)(y:Value)(s2:Shared):Prop
 |mk {ρ':List Lc}{X:Addr->Prop}{it:K.σ}{H':MH} (S:Sim C H' ρ' s2) (N:Nx ρ noW s ρ' s2) (R:K.rel ρ' s2 it y X) (hX:∀ b,X b->s.heap.get? b=none/\¬Own ρ' b/\C.base.heap.get? b=none) (q:Q it H'):t7 K ρ s Q y s2
def IV(K:ItK C)(r:Nat)(env:Env)(e:Expr)(f:IF K):Prop:=∀ ⦃A:Around⦄⦃s:Shared⦄⦃ρ:List Lc⦄⦃H:MH⦄⦃lo:Lo⦄⦃Q:K.σ->MH->Prop⦄,Room r A->Sim C H ρ s->Fm C env ρ s lo->f lo H Q->
  wpAny C.M A (eval e env) (λx s1=>wpAny C.M A (pyIter x) (t7 K ρ s Q) NoE s1) NoE s
theorem eB{H:MH}{ρ:List Lc}{s:Shared}(S:Sim C H ρ s){b:Addr}(h:s.heap.get? b=none): ¬Own ρ b:=nZ (l:=⟨b,b,none⟩) S h h (.inl rfl)
theorem dL{H:MH}{ρ:List Lc}{s:Shared}(S:Sim C H ρ s){b:Addr}(h:s.heap.get? b=none):C.base.heap.get? b=none:=jD S h
theorem Sim.iterStep{H:MH}{ρ:List Lc}{s:Shared}{h':Heap}{a:Addr}(S:Sim C H ρ s)(hk:∀ b o,b≠a->s.heap.get? b=some o->h'.get? b=some o)(hi:∀ o,s.heap.get? a=some o->¬aV o)(ho: ¬Own ρ a)(hb:C.base.heap.get? a=none):Sim C H ρ {s with heap:=h'}/\NxI ρ (λb=>b=a) s ρ {s with heap:=h'}:=by
 have im:Imm s.heap h':=λb o e i=>by
  by_cases q:b=a
  ·subst q;exact absurd i (hi o e)
  ·exact hk b o q e
 refine⟨S.same (λb o e q=>hk b o ?_ e) im (λ_ _ e=>e) rfl S.bare,⟨prefix_refl _,λl hl=>by simp at hl,λb o e _ q=>hk b o q e,im,λb o e q=>⟨o,hk b o q e⟩⟩⟩
 rintro rfl
 refine Or.elim q (λq=>?_) λq=>?_
 ·exact ho q
 ·rw[hb]at q;cases q
theorem NxI.refl{ρ:List Lc}{X:Addr->Prop}{s:Shared}:NxI ρ X s ρ s:=⟨prefix_refl _,λl hl=>by simp at hl,λ_ _ e _ _=>e,.refl _,λ_ o e _=>⟨o,e⟩⟩
def lY:List String:=["enumerate","zip","dict_itemiterator","dict_reverseitemiterator","odict_iterator","itertools.zip_longest","itertools.pairwise"]
theorem iI{M:Model}{A:Around}{s:Shared}{target:Expr}{a:Addr}{u:Value}{o:Obj}{T:String}{Q:Unit->Shared->Prop}{E:Value->Shared->Prop}(ho:s.heap.get? a=some o)(hc:o.cls= .type T)(hT:lY.contains T=false)(h:Q () s):wpAny M A (letOwnedTupleGo target (.ref a) u) Q E s:=by
 have key:wpAny M A (do
   let (.ref r,.ref b):=(Value.ref a,u) |return
   let o<-load r
   match o.cls,o.data with
   | .type n,.fields vs=>
    if ["enumerate","zip","dict_itemiterator","dict_reverseitemiterator","odict_iterator","itertools.zip_longest","itertools.pairwise"].contains n && vs[0]? ==some (rawInt b) then
     rule "for.unpacks-the-owned-tuple"
     updateField r 0 .none
   |_,_=>pure ():Sem Unit) Q E s:=by
  cases u with
  |ref b=>
   refine zzB (wpAny_load ho ?_)
   rw[hc]
   have hT': ["enumerate","zip","dict_itemiterator","dict_reverseitemiterator","odict_iterator","itertools.zip_longest","itertools.pairwise"].contains T=false:=hT
   cases o.data<;>first |exact zzP h | (dsimp only;rw[hT'];exact zzP h)
  |_=>exact zzP h
 cases target<;>first |exact zzP h |exact key
theorem cP{H1:MH}{ρ ρ1:List Lc}{s s1:Shared}(N1:Nx ρ noW s ρ1 s1)(S1:Sim C H1 ρ1 s1){b:Addr}(hb:s1.heap.get? b=none):s.heap.get? b=none/\¬Own ρ1 b/\C.base.heap.get? b=none:=by
 refine⟨?_,eB S1 hb,dL S1 hb⟩
 cases e':s.heap.get? b with
 |none=>rfl
 |some o=>refine xE (N1.al _ _ e') λo' e''=>?_;rw[hb]at e'';cases e''
structure ItP(C:Cx)(σ:Type) where
 nx:σ->MH->Option (Option (V×σ))
 rel:List Lc->Shared->σ->Addr->Prop
 T:String
 own:lY.contains T=false
 mono:∀ {ρ ρ' s s' it a},rel ρ s it a->ρ<+:ρ'->Imm s.heap s'.heap->(∀ o,s.heap.get? a=some o->s'.heap.get? a=some o)->rel ρ' s' it a
 obj:∀ {ρ s it a},rel ρ s it a->∃ o,s.heap.get? a=some o/\o.cls= .type T/\¬aV o
 item:∀ {A:Around}{s ρ H it a v it'}{Q:Option Value->Shared->Prop},A.handled=none->Sim C H ρ s->rel ρ s it a->nx it H=some (some (v,it'))->
  (∀ u h' k,Heap.SameBut a s.heap h'->VR ρ s.heap u v->(∀ s':Shared,s'.heap=h'->Imm s.heap h'->rel ρ s' it' a)->Q (some u) {s with heap:=h',toks:=k})->wpAny C.M A (pyNext (.ref a)) Q NoE s
 fin:∀ {A:Around}{s ρ H it a}{Q:Option Value->Shared->Prop},A.handled=none->Sim C H ρ s->rel ρ s it a->nx it H=some none->
  (∀ h',Heap.ExtBut a s.heap h'->Q none {s with heap:=h'})->wpAny C.M A (pyNext (.ref a)) Q NoE s
theorem Sim.iterK{H:MH}{ρ:List Lc}{s:Shared}{h':Heap}{a:Addr}{k:Nat}(S:Sim C H ρ s)(hk:∀ b o,b≠a->s.heap.get? b=some o->h'.get? b=some o)(hi:∀ o,s.heap.get? a=some o->¬aV o)(ho: ¬Own ρ a)(hb:C.base.heap.get? a=none):Sim C H ρ {s with heap:=h',toks:=k}/\NxI ρ (λb=>b=a) s ρ {s with heap:=h',toks:=k}:=let ⟨S',I⟩:=S.iterStep hk hi ho hb;⟨S'.toks k,⟨I.pre,I.new,I.kp,I.imm,I.al⟩⟩
def ItP.it{σ:Type}(P:ItP C σ):ItK C where
 σ:=σ
 nx:=λit H Q=>Lf (P.nx it H) λy=>Q y H
 rel:=λρ s it x X=>∃ a,x= .ref a/\X=(λb=>b=a)/\P.rel ρ s it a
 mid:=λρ s it u x X=>∃ a,x= .ref a/\X=(λb=>b=a)/\P.rel ρ s it a
 tg:=λ_=>True
 need:=0
 mono:=λ⟨a,hx,hX,h⟩ e i hk=>⟨a,hx,hX,P.mono h e i λo q=>hk a o (hX▸rfl) q⟩
 alive:=λ⟨a,_,hX,h⟩ b hb=>by subst hX;subst hb;refine xEA (P.obj h) λo ho _=>?_;exact⟨o,ho⟩
 next:=by
  rintro A s ρ H it x X Q r _ hr S ⟨a,rfl,rfl,h⟩ hX e
  refine cX (P.obj h) λo ho hc hi=>?_
  have hi':∀ o,s.heap.get? a=some o->¬aV o:=λo' e'=>by rw[ho]at e';cases e';exact hi
  have hXa:=hX a rfl
  refine e.elim λy ey q=>?_
  cases y with
  |some p=>
   refine P.item hr.1 S h ey λu h' k hs ru hrel=>?_
   refine xA (S.iterK (h':=h') (k:=k) (λb o hb e=>by rw[hs.2 b hb];exact e) hi' hXa.1 hXa.2) λS' I=>?_
   exact .item S' I (ru.mono (prefix_refl _) I.imm) ⟨a,rfl,rfl,hrel _ rfl I.imm⟩ q
  |none=>
   refine P.fin hr.1 S h ey λh' he=>?_
   refine xA (S.iterK (h':=h') (k:=s.toks) (λb o hb e=>he b o hb e) hi' hXa.1 hXa.2) λS' I=>?_
   exact .done S' I q
 lgo:=by
  rintro A s ρ H it x X u target r hr S ⟨a,rfl,rfl,h⟩ _ hX
  refine cX (P.obj h) λo ho hc hi=>?_
  exact iI ho hc P.own ⟨S,.refl,a,rfl,rfl,h⟩
def pList(C:Cx):ItP C (Nat×Nat) where
 nx:=λit H=>(lst H (.ref it.1)).map λvs=>(vs[it.2]?).map λv=>(v,(it.1,it.2+1))
 rel:=λρ s it a=>∃ l,ρ[it.1]? =some l/\s.heap.IsListIter a l.a it.2
 T:="list_iterator"
 own:=by decide
 mono:=λ⟨l,h1,o,h2,h3⟩ e i hk=>⟨l,aO e h1,o,hk o h2,h3⟩
 obj:=λ⟨l,h1,o,h2,h3,h4⟩=>⟨o,h2,h3,by unfold aV;rw[h4];simp [h3]⟩
 item:=λhh S ⟨l,h1,hit⟩ e k=>by
  refine xEA (map_eq_some_iff.mp e) λvs hl e=>?_
  refine xEA (map_eq_some_iff.mp e) λv hv e=>?_
  cases e
  refine bL (b5 S (.ref h1) hl) λad xs q1 q2 q3=>?_
  cases q1
  refine xEA (q3.get hv) λu hu ru=>?_
  exact wpAny_pyNext_list_item hit q2 (by simpa using hu) λh' hit2 hs=>k u h' _ hs ru λs' hs' _=>⟨l,h1,hs'▸hit2⟩
 fin:=λhh S ⟨l,h1,hit⟩ e k=>by
  refine xEA (map_eq_some_iff.mp e) λvs hl e=>?_
  refine bL (b5 S (.ref h1) hl) λad xs q1 q2 q3=>?_
  cases q1
  exact wpAny_pyNext_list_end hh hit q2 (Array.getElem?_eq_none (by rw[q3.sz];exact getElem?_eq_none_iff.mp (Option.map_eq_none_iff.mp e))) λh' he=>k h' he
noncomputable abbrev cU(C:Cx):ItK C:=(pList C).it
def iL(f:EF):Lo->MH->(Nat×Nat->MH->Prop)->Prop:=λlo H Q=>f lo H λv H1=>Lf v.rf λi=>(∃ vs,lst H1 (.ref i)=some vs)/\Q (i,0) H1
theorem IV.list{e:Expr}{f:EF}(h:EV C r env e f):IV (cU C) r env e (iL f):=λ_ _ _ _ _ _ hr S F q=>h.run hr S F q λS1 N1 r1 q=>q.elim λi hi q=>by
  refine cX (r1.toRef hi) λl z28 z29 g=>?_;subst z28;subst z29
  refine xA q λz30 q=>?_;obtain⟨vs,hl⟩:=z30
  refine bL (b5 S1 r1 hl) λad xs e q2 q3=>?_
  cases e
  exact wpAny_pyIter_list q2 ⟨S1.push _,N1.trans (.push _),⟨_,rfl,rfl,l,g,_,Heap.get?_push_size _ rfl,rfl,rfl⟩,λb hb=>by rw[show b=_ from hb];exact cP N1 S1 (bD _),q⟩
def rN(again:Lo->MH->SK->Prop)(Q:SK):SK:=λfl lo H=>match fl with | .next=>again lo H Q | .cont=>again lo H Q | .brk=>Q .next lo H | .ret v=>Q (.ret v) lo H
def cN(K:ItK C)(tgt:AF)(body:SF):Nat->K.σ->Lo->MH->SK->Prop
 |0,_,_,_,_=>False
 |n+1,it,lo,H,Q=>K.nx it H λres H1=>match res with
  |none=>Q .next lo H1
  |some p=>tgt p.1 lo H1 λlo1 H2=>body lo1 H2 (rN (cN K tgt body n p.2) Q)
def v0(C:Cx)(env:Env)(ρ0:List Lc)(s0:Shared)(Q:SK):Result->Shared->Prop
 | .ok f,s'=>k7 C env ρ0 s0 Q f s'
 | .error _,_=>False
theorem Nx.stepI{ρ0 ρ ρ':List Lc}{W:Addr->Prop}{X:Addr->Prop}{s0 s s':Shared}(N:Nx ρ0 W s0 ρ s)(I:NxI ρ X s ρ' s')(hX:∀ b,X b->s0.heap.get? b=none):Nx ρ0 W s0 ρ' s':=by
 have nX:∀ {b:Addr}{o:Obj},s0.heap.get? b=some o->¬X b:=λe q=>by rw[hX _ q]at e;cases e
 refine⟨N.pre.trans I.pre,λl hl=>?_,λb o e ho hw=>I.kp b o (N.kp b o e ho hw) (N.own e ho) (nX e),N.imm.trans I.imm,λb o e=>let ⟨o',e'⟩:=N.al b o e;I.al b o' e' (nX e)⟩
 refine xE N.pre λt z31=>?_;subst z31
 refine xE I.pre λt' z32=>?_;subst z32
 rw[append_assoc,drop_left]at hl
 refine Or.elim (mem_append.mp hl) (λq=>?_) λq=>?_
 ·exact N.new l (by simpa using q)
 ·have n:=I.new l (by simpa using q)
  refine⟨?_,?_⟩
  ·cases e:s0.heap.get? l.a with
   |none=>rfl
   |some o=>refine xE (N.al _ _ e) λo' e'=>?_;rw[n.1]at e';cases e'
  ·cases e:s0.heap.get? l.d with
   |none=>rfl
   |some o=>refine xE (N.al _ _ e) λo' e'=>?_;rw[n.2]at e';cases e'
theorem Fm.nextI{ρ ρ':List Lc}{X:Addr->Prop}{s s':Shared}{lo:Lo}(F:Fm C env ρ s lo)(N:NxI ρ X s ρ' s')(hw:∀ b,Wr env b->¬X b):Fm C env ρ' s' lo:=by
 refine xEA F.ns λm z33 hm=>?_;obtain⟨o,es,ep,ho,hr⟩:=z33
 have k:∀ b o,Wr env b->s.heap.get? b=some o->s'.heap.get? b=some o:=λb o hb e=>N.kp b o e (F.own b hb).1 (hw b hb)
 have own:∀ {b:Addr}{o:Obj},s.heap.get? b=some o->¬Own ρ b->¬Own ρ' b:=by
  rintro b o hb h ⟨l,hl,hh⟩
  refine xE N.pre λt z34=>?_;subst z34
  refine Or.elim (mem_append.mp hl) (λq=>?_) λq=>?_
  ·exact h ⟨l,q,hh⟩
  ·have:=N.new l (by simpa using q)
   rcases hh with rfl |rfl
   ·rw[this.1]at hb;cases hb
   ·rw[this.2]at hb;cases hb
 refine⟨F.fn,F.gl,F.bi,⟨m,⟨o,es,ep,k _ _ (.inl rfl) ho,hr⟩,λx hx=>(hm x hx).mono N.pre N.imm⟩,λx hx=>?_,λb hb=>⟨(let ⟨o,e⟩:=F.alv b hb;own e (F.own b hb).1),(F.own b hb).2⟩,F.dis,F.inj,λb hb=>let ⟨o,e⟩:=F.alv b hb;⟨o,k b o hb e⟩⟩
 refine cH (F.cl x hx) λc o u h1 h2 h3 h4=>?_
 exact⟨c,o,u,h1,k _ _ (.inr ⟨x,h1⟩) h2,h3,h4.mono N.pre N.imm⟩
theorem NxI.owns{ρ ρ':List Lc}{X:Addr->Prop}{s s':Shared}(I:NxI ρ X s ρ' s'){b:Addr}{o:Obj}(e':s.heap.get? b=some o)(h: ¬Own ρ b): ¬Own ρ' b:=by
 rintro ⟨l,hl,hh⟩
 refine xE I.pre λt z35=>?_;subst z35
 refine Or.elim (mem_append.mp hl) (λz=>?_) λz=>?_
 ·exact h ⟨l,z,hh⟩
 ·have:=I.new l (by simpa using z)
  rcases hh with rfl |rfl
  ·rw[this.1]at e';cases e'
  ·rw[this.2]at e';cases e'
def Apart(C:Cx)(env:Env)(ρ:List Lc)(s0:Shared)(X:Addr->Prop):Prop:=∀ b,X b->s0.heap.get? b=none/\¬Own ρ b/\C.base.heap.get? b=none/\¬Wr env b
theorem Apart.two{ρ:List Lc}{s0:Shared}{X:Addr->Prop}(h:Apart C env ρ s0 X):∀ b,X b->¬Own ρ b/\C.base.heap.get? b=none:=λb q=>⟨(h b q).2.1,(h b q).2.2.1⟩
theorem rX{K:ItK C}{target:Expr}{body:List Stmt}{tgt:AF}{bf:SF}(ht:AV C r env target tgt)(hb:SVs C r env body bf)(htg:K.tg target/\K.need<=r):∀ (n:Nat){A:Around}{s0 s:Shared}{ρ0 ρ:List Lc}{H:MH}{lo:Lo}{it:K.σ}{x:Value}{X:Addr->Prop}{Q:SK},Room r A->Nx ρ0 (Wr env) s0 ρ s->Sim C H ρ s->Fm C env ρ s lo-> K.rel ρ s it x X->Apart C env ρ s0 X->cN K tgt bf n it lo H Q->codeAny C.M A (.forLoop target x body [] env) (v0 C env ρ0 s0 Q) s
 |0,_,_,_,_,_,_,_,_,_,_,_,_,_,_,_,_,_,e=>e.elim
 |n+1,A,s0,s,ρ0,ρ,H,lo,it,x,X,Q,hr,N,S,F,R,hX,e=>by
  refine codeAny_of_tree ?_
  rw[Around.under_of_weight (c:=.forLoop target x body [] env) rfl rfl]
  show wpAny C.M A ((forTurn target x body [] env).onRaise (λx=>do noteFrame x env;theTreesLotGoes x)) _ _ s
  refine wpAny_onRaise (wpAny_mono (Q:=λfin s'=>match fin with
   | .done f=>v0 C env ρ0 s0 Q (.ok f) s'
   | .again c'=>c'.quiet=true/\codeAny C.M A c' (v0 C env ρ0 s0 Q) s') (E:=NoE) ?_ (λ_ _ z=>z) (λ_ _ z=>z.elim))
  unfold forTurn
  refine zzB (wpAny_standAt (zzB (wpAny_onRaise (wmN (K.next htg.2 hr S R hX.two e) λo s1 p=>?_))))
  cases p with
  |done S1 I1 q=>
   refine zzP ⟨rfl,codeAny_of_tree ?_⟩
   rw[Around.under_of_weight (c:=.block [] env) rfl rfl]
   show wpAny C.M A (do return Fin.done (<-(execs [] env).onRaise (λx=>do noteFrame x env;theTreesLotGoes x))) _ _ s1
   exact zzB (wpAny_onRaise (wpAny_execs_nil (zzP ⟨S1,N.stepI I1 (λb q=>(hX b q).1),F.nextI I1 (λb hw q=>(hX b q).2.2.2 hw),.next,q⟩)))
  |item S1 I1 ru R1 q=>
   have hX1:Apart C env _ s0 X:=λb q=>let ⟨o',e'⟩:=K.alive R b q;⟨(hX b q).1,I1.owns e' (hX b q).2.1,(hX b q).2.2⟩
   refine zzB (wmN (K.lgo (target:=target) hr S1 R1 htg.1 hX1.two) λ_ s2 p=>?_)
   refine xAA p λS2 I2 R2=>?_
   refine zzB (d3.run (α:=Unit) (ht hr S2 ((F.nextI I1 (λb hw q=>(hX b q).2.2.2 hw)).nextI I2 (λb hw q=>(hX1 b q).2.2.2 hw)) (ru.mono I2.pre I2.imm) q) λS3 N3 F3 q=>zzB (wmN (hb hr S3 F3 q) λf s4 p=>?_))
   obtain⟨S4,N4,F4,r4,q⟩:=p
   have N24:=N3.trans N4
   have N04:=((N.stepI I1 (λb q=>(hX b q).1)).stepI I2 (λb q=>(hX b q).1)).trans N24
   have go:∀ {q:cN K tgt bf n _ _ _ Q},codeAny C.M A (.forLoop target x body [] env) (v0 C env ρ0 s0 Q) s4:=λ{q}=>
    rX ht hb htg n hr N04 S4 F4 (K.mono R2 N24.pre N24.imm (λb o q e'=>N24.kp b o e' (hX1 b q).2.1 (hX b q).2.2.2))
     (λb z=>let ⟨o',e'⟩:=K.alive R2 b z;⟨(hX b z).1,N24.own e' (hX1 b z).2.1,(hX b z).2.2⟩) q
   cases r4 with
   |next=>exact zzP ⟨rfl,go (q:=q)⟩
   |cont=>exact zzP ⟨rfl,go (q:=q)⟩
   |brk=>exact zzP ⟨S4,N04,F4,.next,q⟩
   |ret r4=>exact zzP ⟨S4,N04,F4,.ret r4,q⟩
def eY(K:ItK C)(fi:IF K)(tgt:AF)(bf:SF):SF:=λlo H Q=>fi lo H λit H1=>∃ n,cN K tgt bf n it lo H1 Q
theorem SV.for_{K:ItK C}{target iter:Expr}{body:List Stmt}{pos}{fi:IF K}{tgt:AF}{bf:SF}(hi:IV K r env iter fi)(ht:AV C r env target tgt)(hb:SVs C r env body bf)(htg:K.tg target/\K.need<=r)(hs:∀ x,foldedSetIterable iter env x=pure x):SV C r env (.For target iter body [] pos) (eY K fi tgt bf):=λ_ _ _ _ _ _ hr S F e=>wpAny_For (wmN (hi hr S F e) λx s1 h=>wmN h λy s2 ⟨S2,N2,R2,hX,q⟩=>by
  refine xE q λn q=>?_
  refine codeAny_mono (rX ht hb htg n hr N2.wr S2 (F.nx N2) R2 (λb q=>⟨(hX b q).1,(hX b q).2.1,(hX b q).2.2,λhw=>?_⟩) q) λrr s3 hL=>?_
  ·refine xE (F.alv b hw) λo e'=>?_;rw[(hX b q).1]at e';cases e'
  ·cases rr with
   |ok f=>exact hL
   |error _=>exact hL.elim) hs
end
section
variable {C:Cx}{r:Nat}{env:Env}
def yL(t:TF)(b:SF):Nat->Lo->MH->SK->Prop
 |0,_,_,_=>False
 |n+1,lo,H,Q=>t lo H λc H1=>bif c then b lo H1 (rN (yL t b n) Q) else Q .next lo H1
def iY(t:TF)(b:SF):SF:=λlo H Q=>∃ n,yL t b n lo H Q
inductive WInv(C:Cx)(env:Env)(t:TF)(b:SF)(Q:SK)(ρ:List Lc)(s:Shared)(n:Nat)(s1:Shared):Prop
 |mk {ρ1:List Lc}{H1:MH}{lo1:Lo} (S:Sim C H1 ρ1 s1) (N:Nx ρ (Wr env) s ρ1 s1) (F:Fm C env ρ1 s1 lo1) (e:yL t b n lo1 H1 Q):WInv C env t b Q ρ s n s1
theorem SV.while_{test:Expr}{body:List Stmt}{pos}{t:TF}{b:SF}(ht:TV C r env test t)(hb:SVs C r env body b):SV C r env (.While test body [] pos) (iY t b):=by
 intro A s ρ H lo Q hr S F e
 refine xE e λn e=>?_
 refine wpAny_While (codeAny_whileLoop (R:=λrr s'=>match rr with | .ok f=>k7 C env ρ s Q f s' | .error e=>cameBackBy C.M A env NoE e s') (WInv C env t b Q ρ s) ?_ n ⟨S,.refl,F,e⟩)
 intro n s1 p
 obtain⟨S1,N1,F1,e⟩:=p
 cases n with
 |zero=>exact e.elim
 |succ n=>
  refine ht.run hr S1 F1 e λ{y _ _ _} S2 N2 e=>?_
  have N02:=N1.trans N2.wr
  cases y with
  |false=>exact wpAny_execs_nil ⟨S2,N02,F1.nx N2,.next,e⟩
  |true=>
   refine wmN (hb hr S2 (F1.nx N2) e) λf s3 p=>?_
   obtain⟨S3,N3,F3,r3,e⟩:=p
   cases r3 with
   |next=>exact⟨n,lt_succ_self _,S3,N02.trans N3,F3,e⟩
   |cont=>exact⟨n,lt_succ_self _,S3,N02.trans N3,F3,e⟩
   |brk=>exact⟨S3,N02.trans N3,F3,.next,e⟩
   |ret r3=>exact⟨S3,N02.trans N3,F3,.ret r3,e⟩
def ALs(C:Cx)(r:Nat)(env:Env)(ts:List Expr)(f:AF):Prop:=∀ ⦃A:Around⦄⦃s:Shared⦄⦃ρ:List Lc⦄⦃H:MH⦄⦃lo:Lo⦄⦃u:Value⦄⦃v:V⦄⦃Q:Lo->MH->Prop⦄,Room r A->Sim C H ρ s->Fm C env ρ s lo->VR ρ s.heap u v->f v lo H Q->
  wpAny C.M A (assignAll u ((assignEach ts env).map (·.2))) (d3 C env (Wr env) ρ s Q) NoE s
theorem ALs.one{t:Expr}{f:AF}(h:AV C r env t f)(he:(assignEach [t] env).map (·.2)= [assign t env]):ALs C r env [t] f:=by
 intro A s ρ H lo u v Q hr S F rv e
 rw[he]
 exact h hr S F rv e
def fM(f g:AF):AF:=λv lo H Q=>f v lo H λlo1 H1=>g v lo1 H1 Q
theorem ALs.cons{t t2:Expr}{ts:List Expr}{f g:AF}(h:AV C r env t f)(hs:ALs C r env (t2::ts) g)(he:(assignEach (t::t2::ts) env).map (·.2)=assign t env::(assignEach (t2::ts) env).map (·.2))(hc:∃ x xs,(assignEach (t2::ts) env).map (·.2)=x::xs):ALs C r env (t::t2::ts) (fM f g):=by
 intro A s ρ H lo u v Q hr S F rv e
 rw[he]
 have key:wpAny C.M A (do holding [u] (assign t env u);assignAll u ((assignEach (t2::ts) env).map (·.2))) (d3 C env (Wr env) ρ s Q) NoE s:=zzB (wpAny_holding (d3.run (α:=Unit) (h hr S F rv e) λS1 N1 F1 q=>wmN (hs hr S1 F1 (rv.nx N1) q) λ_ _ p=>p.from N1))
 refine xEE hc λx xs hx=>?_
 rw[hx]at key ⊢
 exact key
def cC(f:EF)(g:AF):SF:=λlo H Q=>f lo H λv H1=>g v lo H1 λlo' H2=>Q .next lo' H2
theorem SV.assigns{ts:List Expr}{e:Expr}{pos}{f:EF}{g:AF}(h:EV C r env e f)(ha:ALs C r env ts g)(hs:swapsWithSole ts e pos.line env=pure false)(hw:swappedStores ts e env=pure none):SV C r env (.Assign ts e pos) (cC f g):=λ_ _ _ _ _ _ hr S F q=>wpAny_Assign_stores (h.run hr S F q λS1 N1 r1 q=>d3.run (α:=Unit) (ha hr S1 (F.nx N1) r1 q) λS2 N2 F2 q=>⟨S2,N1.wr.trans N2,F2,.next,q⟩) hs hw
def upds:List Str->List V->Lo->Option Lo
 | [],[],lo=>some lo
 |x::xs,v::vs,lo=>upds xs vs (upd lo x v)
 |_,_,_=>none
theorem aCc{A:Around}{Q:Lo->MH->Prop}{xs:List Str}:∀ {us:List Value}{vs:List V}{s:Shared}{ρ:List Lc}{H:MH}{lo lo':Lo},Sim C H ρ s->Fm C env ρ s lo->VRs ρ s.heap us vs->upds xs vs lo=some lo'->Q lo' H-> (∀ x∈xs,env.kindOf x=some .local\/env.kindOf x=some .cell)->wpAny C.M A (assignInOrder (xs.map λn=>bindName env n) us) (d3 C env (Wr env) ρ s Q) NoE s:=by
 induction xs with
 |nil=>
  intro us vs s ρ H lo lo' S F r e q _
  cases r with
  |nil=>cases e;exact zzP ⟨S,.refl,F,q⟩
  |cons=>exact aG e
 |cons x xs ih=>
  intro us vs s ρ H lo lo' S F r e q hk
  cases r with
  |nil=>exact aG e
  | @cons u us v vs a b=>
   show wpAny C.M A (do holding us (bindName env x u);assignInOrder (xs.map λn=>bindName env n) us) _ _ s
   exact zzB (wpAny_holding (bindName_ (fP S F a (qW (hk x (.head _))) λ_ S1 N1 F1=>wmN (ih S1 F1 (b.nx N1) e q (λy hy=>hk y (.tail _ hy))) λ_ _ p=>p.from N1)))
theorem VRs.rev{ρ:List Lc}{h:Heap}{us:List Value}{vs:List V}(r:VRs ρ h us vs):VRs ρ h us.reverse vs.reverse:=by
 induction us generalizing vs with
 |nil=>cases r;exact .nil
 |cons u us ih=>cases r with
  |cons a b=>simp only[List.reverse_cons];exact(ih b).append (.cons a .nil)
def cM(names:List Str)(f:EF):SF:=λlo H Q=>f lo H λv H1=>Lf v.tp λvs=>vs.length=names.length/\Lf (upds names.reverse vs.reverse lo) λlo'=>Q .next lo' H1
theorem SV.swap{elts:List Expr}{k:Nat}{tpos:Pos}{e:Expr}{pos}{names:List Str}{f:EF}(h:EV C r env e f)(hs:swapsWithSole [.Tuple elts k tpos] e pos.line env=pure false)(hw:swappedStores [.Tuple elts k tpos] e env=pure (some names))(hk:∀ x∈names,env.kindOf x=some .local\/env.kindOf x=some .cell):SV C r env (.Assign [.Tuple elts k tpos] e pos) (cM names f):=λ_ _ _ _ _ _ hr S F q=>Assign_Tuple_swapped (h.run hr S F q λS1 N1 r1 q=>q.elim λvs hv q=>q.2.elim λlo1 h2 q2=>by
  refine cH (r1.toTup hv) λa xs nn _ z36 gt rs=>?_;subst z36
  rw[<-q.1,<-rs.sz]
  refine unpackItems_tuple hr.1 ⟨_,gt,rfl,_,rfl⟩ λh' he=>?_
  have hk':=tN he
  exact d3.run (α:=Unit) (aCc (S1.ext hk') ((F.nx N1).nx (.ext hk')) (rs.mono (prefix_refl _) (dX hk')).rev h2 q2 (λx hx=>hk x (by simpa using hx))) λS2 N2 F2 q=>⟨S2,(N1.wr.trans (.ext hk')).trans N2,F2,.next,q⟩) hs hw
def wH(x:Str)(g:OpF)(f:EF):SF:=λlo H Q=>Lf (lo x) λa=>f lo H λb H2=>Lp (g a b H2) λv H1=>Q .next (upd lo x v) H1
theorem SV.aug{x:Str}{e:Expr}{op:Operator}{pos' pos}{f:EF}{g:OpF}(h:EV C r env e f)(ho:OpR C r (inplaceOp op) g)(hk:env.kindOf x=some .local\/env.kindOf x=some .cell)(hc:(x==("__classdict__" :Str))=false):SV C r env (.AugAssign (.Name x pos') op e pos) (wH x g f):=λ_ _ _ _ _ _ hr S F q=>q.elim λa hx q=>wpAny_AugAssign_Name (nV (hk.imp_right .inl) hc F hx λu ru=>h.run hr S F q λS2 N2 r2 q=>bK.run (ho hr S2 (ru.nx N2) r2 q) λS3 N3 r3 q=>
  fP S3 ((F.nx N2).nx N3) r3 (qW hk) λ_ S4 N4 F4=>⟨S4,(N2.trans N3).wr.trans N4,F4,.next,q⟩)
def aS(f:EF):SF:=λlo H Q=>f lo H λ_ H1=>Q .next lo H1
theorem SV.expr{e:Expr}{pos}{f:EF}(h:EV C r env e f)(hi:interactive env=false)(hs:swapsWith e none pos.line env=pure false):SV C r env (.Expr e pos) (aS f):=λ_ _ _ _ _ _ hr S F q=>wpAny_Expr_any (h.run hr S F q λS1 N1 r1 q=>⟨S1,N1.wr,F.nx N1,.next,q⟩) hi hs
def sNo:SF:=λ_ _ _=>False
theorem SVs.no{b:List Stmt}:SVs C r env b sNo:=λ_ _ _ _ _ _ _ _ _ q=>q.elim
end
section
section
variable {prog:Program}{w:World}{A:Around}{E:Value->Shared->Prop}{s:Shared}
theorem yH{l:Addr}{items:Array Value}{n:Nat}{k:Int}{j:Nat}{t:Tok}{v:Value}{Q:Unit->Shared->Prop}(hl:IsL s.heap l items n)(hk: -1000000<k/\k<1000000) (hj:seqIndex? k items.size=some j)(hQ:Q () {s with heap:=s.heap.update l (Obj.mapSeq (·.setIfInBounds j v))}):
  wpAny (model prog w) A (setItem (.ref l) (.int k t) v) Q E s:=by
 have hl':=hl.isList
 refine t9 (id hl') λo ho hc ne hd=>?_
 have hlt:j<items.size:=by refine Or.elim (sS hj) (λh=>?_) λh=>?_<;>omega
 have hx':items[j]? =some items[j]:=Array.getElem?_eq_getElem hlt
 unfold setItem
 try with_reducible refine wpAny_holding ?_
 first |refine zzB (zzP ?_) |skip
 refine zzB (wpAny_sequenceKey hl'.typeIs (by decide) ?_)
 refine zzB (wpAny_callSpecial?_slot (name:=Str.ofString "__setitem__") hl'.typeIs slot_list_setitem
  (wpAny_call_entry slot_list_setitem hl'.typeIs entry_list_setitem ?_ (args_list_setitem _ _ _)))
 show wpAny _ _ (Builtin.List.listSubscript? (.int k t) >>=_) _ _ s
 have fin:∀ {Q':Fin->Shared->Prop},Q' (.done (.ret .none)) {s with heap:=s.heap.update l (Obj.mapSeq (·.setIfInBounds j v))}->wpAny (model prog w) A.in1 (do setSeqItemAt l j v;return<-ret .none) Q' E s:=λh=>zzB (wpAny_setSeqItemAt ho hd (zzP h))
 rcases sS hj with ⟨h0,e,_⟩ |⟨h0,h1,e,_⟩
 ·refine zzB (wpAny_listSubscript_int (fitsIndex_of h0 (by omega)) ?_)
  refine xE (Int.eq_ofNat_of_zero_le h0) λj' z37=>?_;subst z37
  have:j=j':=by simpa using e
  subst this
  show wpAny _ _ ((seqItemAt l j >>=λr=>pure (r.map (j,·))) >>=_) _ _ s
  refine zzB (zzB (wpAny_seqItemAt ho hd (zzP ?_)))
  rw[hx']
  show wpAny _ _ (setSeqItemAt l j v >>=_) _ _ s
  refine zzB (wpAny_setSeqItemAt ho hd ?_)
  first
   |exact zzB (zzP (zzP ⟨.none,rfl,zzP hQ⟩))
   |exact zzP ⟨.none,rfl,zzP hQ⟩
 ·refine zzB (wpAny_listSubscript_int (fitsIndex_neg h0 (by omega)) ?_)
  have hidx:=seqIndex_neg h0 h1
  obtain⟨j',rfl⟩:∃ j:Nat,k=Int.negSucc j:=by
   cases k with
   |ofNat n=>exact absurd h0 (not_lt.mpr (natCast_nonneg n))
   |negSucc n=>exact⟨n,rfl⟩
  show wpAny _ _ ((Builtin.List.listItems (.ref l) >>=λxs=>pure ((seqIndex? (Int.negSucc j') xs.size).bind λi=>xs[i]?.map (i,·))) >>=_) _ _ s
  refine zzB (zzB ?_)
  show wpAny _ _ (seqItems? (.ref l) >>=_) _ _ s
  refine zzB (wpAny_seqItems ho hd (zzP (zzP ?_)))
  rw[hj]
  simp only[Option.bind_some,hx',map_some]
  refine zzB (wpAny_setSeqItemAt ho hd ?_)
  first
   |exact zzB (zzP (zzP ⟨.none,rfl,zzP hQ⟩))
   |exact zzP ⟨.none,rfl,zzP hQ⟩
end
variable {C:Cx}{r:Nat}{env:Env}
theorem Sim.put{H:MH}{ρ:List Lc}{s:Shared}{h':Heap}{k:Nat}{i:Nat}{l:Lc}{m m':MO}{o:Obj}(S:Sim C H ρ s)(hl:ρ[i]? =some l)(hH:H[i]? =some m)(hd:l.d=l.a)(ho:s.heap.get? l.a=some o)(hi: ¬aV o)(hs:Heap.SameBut l.a s.heap h') (hn:∃ o,h'.get? l.a=some o) (h1:∀ vs,m≠ .ro vs) (h2:∀ vs,m'≠ .ro vs) (hm:Imm s.heap h'->OR C ρ {s with heap:=h',toks:=k} l m'):
  Sim C (H.set i m') ρ {s with heap:=h',toks:=k}/\∀ W,Nx ρ W s ρ {s with heap:=h',toks:=k}:=by
 have im:=cZ hs ho hi
 refine⟨S.upd (s':= {s with heap:=h',toks:=k}) hl hH h1 (λb o e hb=>(hs.2 b λq=>hb (.inl q)).trans e) im rfl rfl (hm im) h2,
  λW=>⟨prefix_refl _,λl hl=>by simp at hl,λb o e ho _=>(hs.2 b λq=>ho ⟨l,mem_of_getElem? hl,.inl q⟩).trans e,im,λb o e=>?_⟩⟩
 by_cases q:b=l.a
 ·rw[q];exact hn
 ·exact⟨o,(hs.2 b q).trans e⟩
theorem iV.put{H:MH}{ρ:List Lc}{s:Shared}{i:Nat}{l:Lc}{vs vs':List V}{xs:Array Value}{n:Nat}{k:Nat}(S:Sim C H ρ s)(O:iV H ρ s i l vs xs n)(f:Array Value->Array Value)(hv:VRs ρ s.heap (f xs).toList vs'):Sim C (H.set i (.list vs')) ρ {s with heap:=s.heap.update l.a (Obj.mapSeq f),toks:=k}/\∀ W,Nx ρ W s ρ {s with heap:=s.heap.update l.a (Obj.mapSeq f),toks:=k}:=S.put O.g O.h O.d O.x (by simp [aV]) (Heap.SameBut.update ..) ⟨_,O.x.update f⟩ (by intro _ h;cases h) (by intro _ h;cases h) λim=>⟨O.d,O.gn,f xs,_,O.x.update f,hv.mono (prefix_refl _) im⟩
def dput(f:Int->Option V)(k:Int)(v:V):Int->Option V:=λx=>if x=k then some v else f x
theorem lP(kvs:List (Int×Value))(k x:Int)(v:Value):valueAt (stored kvs k v) x=if x=k then some v else valueAt kvs x:=by
 unfold stored
 by_cases hk:kvs.any (λkv=>decide (kv.1=k))=true
 ·rw[if_pos hk]
  by_cases hx:x=k
  ·subst hx
   rw[if_pos rfl]
   induction kvs with
   |nil=>simp at hk
   |cons a t ih=>
    by_cases ha:a.1=x
    ·simp [valueAt,ha]
    ·have hk2:t.any (λkv=>decide (kv.1=x))=true:=by simpa [ha] using hk
     have:=ih hk2
     simp only[valueAt,map_cons,ha,if_false,find?_cons,decide_false]at this ⊢
     exact this
  ·rw[if_neg hx]
   clear hk
   induction kvs with
   |nil=>rfl
   |cons a t ih=>
    by_cases ha:a.1=k
    ·have hax: ¬a.1=x:=by rw[ha];exact λe=>hx e.symm
     simp only[valueAt,map_cons,ha,if_true,find?_cons]at ih ⊢
     have h1:decide (k=x)=false:=by simpa using λe=>hx e.symm
     simp only[h1]
     exact ih
    ·by_cases hax:a.1=x
     ·subst hax
      simp only[valueAt,map_cons,ha,if_false,find?_cons,decide_true,map_some]
     ·simp only[valueAt,map_cons,ha,if_false,find?_cons,hax,decide_false]at ih ⊢
      exact ih
 ·rw[if_neg hk]
  unfold valueAt
  rw[List.find?_append]
  by_cases hx:x=k
  ·subst hx
   have:kvs.find? (λkv=>decide (kv.1=x))=none:=by
    rw[List.find?_eq_none];intro a ha h;exact hk (List.any_eq_true.mpr ⟨a,ha,h⟩)
   simp [this]
  ·have:decide (k=x)=false:=by simpa using λe=>hx e.symm
   simp [hx,this]
theorem Sim.setD{H:MH}{ρ:List Lc}{s:Shared}{h':Heap}{tk:Nat}{i:Nat}{l:Lc}{kvs:List (Int×Value)}{n:Nat}{f:Int->Option V}{k:Int}{u:Value}{v:V}(S:Sim C H ρ s)(hl:ρ[i]? =some l)(hH:H[i]? =some (.dict n f))(hd:l.d=l.a)(hg:l.g=none)(hx:s.heap.DictOf (intKind C.prog C.w) l.a kvs) (hn:kvs.length<=n) (hf:∀ k,OV ρ s.heap (valueAt kvs k) (f k)) (rv:VR ρ s.heap u v)(hx':h'.DictOf (intKind C.prog C.w) l.a (stored kvs k u)) (hs:Heap.SameBut l.a s.heap h'):Sim C (H.set i (.dict (n+1) (dput f k v))) ρ {s with heap:=h',toks:=tk}/\∀ W,Nx ρ W s ρ {s with heap:=h',toks:=tk}:=by
 refine cH (id hx) λo es ep ho hc hdt _=>?_
 refine S.put hl hH hd ho (by unfold aV;rw[hdt];exact id) hs (let ⟨o,_,_,e,_⟩:=hx';⟨o,e⟩) (by intro _ h;cases h) (by intro _ h;cases h) λim=>⟨hd,hg,_,hx',Nat.le_trans (stored_length_le _ _ _) (succ_le_succ hn),λx=>?_⟩
 rw[lP]
 unfold dput
 by_cases hx:x=k
 ·rw[if_pos hx,if_pos hx];exact rv.mono (prefix_refl _) im
 ·rw[if_neg hx,if_neg hx];exact(hf x).mono (prefix_refl _) im
def setO(H:MH)(i:Nat)(k:Int)(v:V):MO->Option MH
 | .list vs=>if-1000000<k/\k<1000000 then(seqIndex? k vs.length).map λj=>H.set i (.list (vs.set j v)) else none
 | .dict n f=>if n<1000000 then some (H.set i (.dict (n+1) (dput f k v))) else none
 |_=>none
def oS(a b v:V)(H:MH):Option MH:=a.rf.bind λi=>(Ti b).bind λk=>H[i]?.bind (setO H i k v)
theorem VRs.set{ρ:List Lc}{h:Heap}{u:Value}{v:V}(r:VR ρ h u v):∀ {us:List Value}{vs:List V} (j:Nat),VRs ρ h us vs->VRs ρ h (us.set j u) (vs.set j v)
 |_,_,_,.nil=>.nil
 |_,_,0,.cons a b=>.cons r b
 |_,_,j+1,.cons a b=>.cons a (VRs.set r j b)
theorem lT{A:Around}{s:Shared}{ρ:List Lc}{H:MH}{a b u:Value}{va vb v:V}{H':MH}{K:Unit->Shared->Prop}{E:Value->Shared->Prop}(S:Sim C H ρ s)(ra:VR ρ s.heap a va)(rb:VR ρ s.heap b vb)(rv:VR ρ s.heap u v)(e:oS va vb v H=some H')(k:∀ s',Sim C H' ρ s'->(∀ W,Nx ρ W s ρ s')->K () s'):wpAny C.M A (setItem a b u) K E s:=by
 refine xEA (bind_eq_some_iff.mp e) λi hi e1=>?_
 refine xEA (bind_eq_some_iff.mp e1) λkk hk e2=>?_
 refine xEA (bind_eq_some_iff.mp e2) λm hH e3=>?_
 refine cX (ra.toRef hi) λl _ z38 g=>?_;subst z38
 refine VR.ti (P:=λb=>wpAny C.M A (setItem _ b u) _ _ s) rb hk λt=>?_
 clear e e1 e2
 cases m with
 |list vs=>
  replace e3:(if-1000000<kk/\kk<1000000 then(seqIndex? kk vs.length).map λj=>H.set i (.list (vs.set j v)) else none)=some H':=e3
  split at e3
  ·rename_i hk
   refine xEA (map_eq_some_iff.mp e3) λj hj z39=>?_;subst z39
   refine xEE (iZ S g hH) λxs n O=>?_
   refine yH O.x hk (by rw[O.r.sz];exact hj) ?_
   have:=O.put (k:=s.toks) S (λxs=>xs.setIfInBounds j u) (by simpa using VRs.set rv j O.r)
   exact k _ this.1 this.2
  ·cases e3
 |dict n f=>
  replace e3:(if n<1000000 then some (H.set i (.dict (n+1) (dput f kk v))) else none)=some H':=e3
  split at e3
  ·cases e3
   refine sN (S.objs i _ l hH g) λh1 h2 kvs hx hle hf=>?_
   refine wpAny_setItem_pairs (k:=kk) (intKind_is _ _ _ _) hx (λh' hx' hs=>?_) (by rw[sizeLine_eq];omega)
   have:=S.setD (tk:=s.toks+1) g hH h1 h2 hx hle hf rv hx' hs
   exact k _ this.1 this.2
  ·cases e3
 |_=>cases e3
def qS(f1 f2:EF):AF:=λv lo H Q=>f1 lo H λa H1=>f2 lo H1 λb H2=>Lf (oS a b v H2) λH3=>Q lo H3
theorem AV.sub{e1 e2:Expr}{pos:Pos}{f1 f2:EF}(h1:EV C r env e1 f1)(h2:EV C r env e2 f2):AV C r env (.Subscript e1 e2 pos) (qS f1 f2):=by
 intro A s ρ H lo u v Q hr S F rv e
 rw[assign_Subscript]
 exact zzB (wpAny_holding (h1.run hr S F e λS1 N1 r1 e=>zzB (wpAny_holding (h2.run hr S1 (F.nx N1) e λS2 N2 r2 e=>e.elim λH3 g3 q=>
  zzB (wpAny_standAt (zzB (wpAny_holding (lT S2 (r1.nx N2) r2 ((rv.nx N1).nx N2) g3 λ_ S3 N3=>wpAny_release ⟨S3,(N1.trans N2).wr.trans (N3 _),((F.nx N1).nx N2).nx (N3 _),q⟩))))))))
def n7:EF:=λ_ H Q=>Q (.ref H.length) (H++[.dict 0 λ_=>Option.none])
theorem EV.dict0{pos}:EV C r env (.Dict [] [] pos) n7:=λA s ρ H lo Q hr S F e=>
 wpAny_Dict_empty ⟨S.alloc {cls:=.type "dict",data:=.dict #[]} (.dict 0 λ_=>Option.none) ⟨rfl,rfl,[],⟨_,#[],0,Heap.get?_push_size _ rfl,⟨rfl,rfl,rfl⟩,rfl,λ_ he=>by simp at he,.nil,by simp⟩,le_refl _,λk=>trivial⟩,.alloc _,VR.ref (l:=⟨s.heap.objs.size,s.heap.objs.size,Option.none⟩) (by rw[<-S.len];simp),e⟩
end
section
variable {C:Cx}{r:Nat}{env:Env}
noncomputable abbrev CF:=List V->MH->EK->Prop
def Keeps(C:Cx)(f:Value):Prop:=∀ h:Heap,(∀ b o,C.base.heap.get? b=some o->h.get? b=some o)->∃ k,(k=Keeper.frame\/k=Keeper.machine\/k=Keeper.boundFrame)/\Looks C.M h (keeperOf f) k
structure CV(C:Cx)(r:Nat)(f:Value)(g:CF):Prop where
 keep:Keeps C f
 call:∀ {A:Around}{s:Shared}{ρ:List Lc}{H:MH}{us:List Value}{vs:List V}{Q:EK},Room r A->Sim C H ρ s->VRs ρ s.heap us vs->g vs H Q->
  wpAny C.M A (PySem.call f us) (bK C ρ s Q) NoE s
theorem b6{id:String}:Keeps C (.builtin id):=λh _=>⟨.machine,.inr (.inl rfl),.now⟩
theorem d7{id:String}:Keeps C (.type id):=λh _=>⟨.machine,.inr (.inl rfl),.now⟩
def lf(g:List V->MH->Option (V×MH)):CF:=λvs H Q=>Lp (g vs H) Q
theorem CV.of{f:Value}{g:List V->MH->Option (V×MH)}(hk:Keeps C f)(h:∀ {A:Around}{s:Shared}{ρ:List Lc}{H:MH}{us:List Value}{vs:List V}{v:V}{H':MH},Room r A->Sim C H ρ s->VRs ρ s.heap us vs->g vs H=some (v,H')-> wpAny C.M A (PySem.call f us) (EPo C ρ s H' v) NoE s):CV C r f (lf g):=⟨hk,λhr S hu q=>q.elim λp e q=>wmN (h hr S hu e) λ_ _ p=>p.post q⟩
def k9(env:Env)(es:List Expr):Prop:=(es= []\/∃ e rest,es=e::rest/\starEach es env=(false,eval e env)::starEach rest env)/\∀ pos,(backTo pos (starEach es env)).any (·.1)=false
theorem jS{es:List Expr}{fs:EFs}(h:EVs C r env es fs)(hf:k9 env es){A:Around}{s:Shared}{ρ:List Lc}{H:MH}{lo:Lo}{Q:List V->MH->Prop}{pos:Pos}{f:Value}(hr:Room r A)(S:Sim C H ρ s)(F:Fm C env ρ s lo)(e:fs lo H Q):wpAny C.M A (evalArgs f true (backTo pos (starEach es env)) []) (λa s'=>a.kw= []/\t8 C ρ s Q a.pos s') NoE s:=by
 have h1:=h (pos:=pos) hr S F e
 rcases hf.1 with rfl |⟨e1,rest,rfl,he⟩
 ·unfold evalArgs
  show wpAny C.M A (spliced [] >>=_) _ _ s
  refine zzB (wmN h1 λvs s' q=>zzB (zzP (wpAny_holding ?_)))
  exact zzB (zzP (zzB (zzP (zzP ⟨rfl,q⟩))))
 ·rw[he]at h1 ⊢
  exact evalArgs_plain (wmN h1 λ_ _ q=>⟨rfl,q⟩)
def Glo(C:Cx)(x:Str)(f:Value):Prop:=∃ mg,C.base.heap.Ns mainGlobals mg/\(mg x=some f\/(mg x=none/\∃ mb,C.base.heap.Ns builtinsNs mb/\mb x=some f))
theorem jG{h h':Heap}{a:Addr}{m:Str->Option Value}(hn:h.Ns a m)(hk:∀ b o,h.get? b=some o->h'.get? b=some o):h'.Ns a m:=let ⟨o,es,ep,ho,q⟩:=hn;⟨o,es,ep,hk _ _ ho,q⟩
theorem j5{x:Str}{f:Value}{pos:Pos}{A:Around}{s:Shared}{ρ:List Lc}{H:MH}{lo:Lo}{Q:Value->Shared->Prop}(hg:Glo C x f)(hk:env.kindOf x=some .globalImplicit)(hd:(x==("__debug__" :Str))=false)(S:Sim C H ρ s) (F:Fm C env ρ s lo) (h:Q f s):wpAny C.M A (eval (.Name x pos) env) Q NoE s:=by
 refine xEA hg λmg hmg hx=>?_
 have hG:s.heap.Ns env.globals mg:=by rw[F.gl];exact jG hmg S.keep
 refine Name_function_global F.fn hk ?_ hd
 rcases hx with hx |⟨hx,mb,hmb,hb⟩
 ·exact loadGlobal_global hG hx h
 ·exact loadGlobal_builtin hG hx (by rw[F.bi];exact jG hmb S.keep) hb h
def aM(g:CF)(fs:EFs):EF:=λlo H Q=>fs lo H λvs H1=>g vs H1 Q
theorem kW{A:Around}{s:Shared}{ρ:List Lc}{H:MH}{lo:Lo}{f:Value}{g:CF}{es:List Expr}{fs:EFs}{first:List Value}{fv:List V}{pos:Pos}{Q:EK}(hf:CV C r f g)(ha:EVs C r env es fs)(hfl:k9 env es)(hr:Room r A) (S:Sim C H ρ s) (F:Fm C env ρ s lo) (r1:VRs ρ s.heap first fv) (q:fs lo H λvs H1=>g (fv++vs) H1 Q):wpAny C.M A (callWith pos f first (backTo pos (starEach es env)) []) (bK C ρ s Q) NoE s:=callWith_of (P:=λh=>∀ b o,C.base.heap.get? b=some o->h.get? b=some o) (by rw[hfl.2];rfl) hf.keep (wmN (jS ha hfl hr S F q) λa s1 p=>by
  obtain⟨ps,kw⟩:=a
  obtain⟨e,S1,N1,rs,q⟩:=p
  cases e
  exact⟨S1.keep,wmN (hf.call hr S1 ((r1.nx N1).append rs) q) λ_ _ p=>p.from N1⟩)
theorem EV.call{x:Str}{np pos:Pos}{f:Value}{g:CF}{es:List Expr}{fs:EFs}(hf:CV C r f g)(hg:Glo C x f)(ha:EVs C r env es fs)(hfl:k9 env es)(hk:env.kindOf x=some .globalImplicit)(hd:(x==("__debug__" :Str))=false):EV C r env (.Call (.Name x np) es [] pos) (aM g fs):=λ_ _ _ _ _ _ hr S F e=>wpAny_Call_ofName (j5 hg hk hd S F (kW hf ha hfl hr S F .nil e))
theorem eD{o:Expr}{name:Str}{apos pos:Pos}{args:List Expr}{A:Around}{Q:Value->Shared->Prop}{E:Value->Shared->Prop}{s:Shared}{P:Value->Shared->Prop}(hbase:attributeBase o name env (eval o env)=eval o env)(hfew:((backTo pos (starEach args env)).all (λx=> !x.1) && (backToKw pos (keywordEach [] env)).all (λx=>x.1.isSome) && decide (args.length+([]:List Keyword).length+(if ([]:List Keyword).isEmpty then 0 else 1)<30))=true)(hline:(apos.endLine==pos.line)=true)(h:wpAny C.M A (eval o env) (λov s₁=>∀ pl,wpAny C.M A (getMethod ov name pl) (λq s₂=>wpAny C.M A (callWith pos q.1 q.2 (backTo pos (starEach args env)) []) Q E s₂) E s₁) E s):wpAny C.M A (eval (.Call (.Attribute o name apos) args [] pos) env) Q E s:=by
 rw[arm_eval_Call,hbase]
 refine zzB (wpAny_mono h (λov s₁ h₁=>?_) λ_ _ e=>e)
 refine zzB (wpAny_standAt ?_)
 have hform:methodCallForm (args.length+([]:List Keyword).length) (backTo pos (starEach args env)) (backToKw pos (keywordEach [] env))=true:=hfew
 have hpos:methodCallPos true o env apos pos=pure pos:=by unfold methodCallPos;simp [hline]
 unfold methodCall
 rw[hform]
 refine zzB (wpAny_holding (wpAny_mono (h₁ _) (λq s₂ h₂=>?_) λ_ _ e=>e))
 exact zzB (wpAny_of_eq hpos h₂)
end
section
variable {C:Cx}{r:Nat}{env:Env}
structure eX(env:Env)(o:Expr)(name:Str)(apos pos:Pos)(args:List Expr):Prop where
 base:attributeBase o name env (eval o env)=eval o env
 few:((backTo pos (starEach args env)).all (λx=> !x.1) && (backToKw pos (keywordEach [] env)).all (λx=>x.1.isSome)
   && decide (args.length+([]:List Keyword).length+(if ([]:List Keyword).isEmpty then 0 else 1)<30))=true
 line:(apos.endLine==pos.line)=true
theorem oZ{o:Expr}{f:EF}{name:Str}{id:String}{apos pos:Pos}{args:List Expr}{A:Around}{K:Value->Shared->Prop}{s:Shared}{ρ:List Lc}{H:MH}{lo:Lo}{Q:EK}(ho:EV C r env o f) (sh:eX env o name apos pos args) (slot:Slot "list" name id) (hty:typeOf (.builtin id)=pure (.type "method_descriptor")) (hr:Room r A) (S:Sim C H ρ s) (F:Fm C env ρ s lo) (e:f lo H Q)(hQ:∀ v H1,Q v H1->∃ i vs,v.rf=some i/\H1[i]? =some (.list vs))(h:∀ {s1 ρ1 l i vs xs n H1},Sim C H1 ρ1 s1->Nx ρ noW s ρ1 s1->iV H1 ρ1 s1 i l vs xs n->Q (.ref i) H1->wpAny C.M A (callWith pos (.builtin id) [.ref l.a] (backTo pos (starEach args env)) []) K NoE s1):wpAny C.M A (eval (.Call (.Attribute o name apos) args [] pos) env) K NoE s:=eD (P:=λ_ _=>True) sh.base sh.few sh.line (ho.run hr S F e λS1 N1 r1 q pl=>by
  refine gZ (hQ _ _ q) λi vs hi hv=>?_
  refine cX (r1.toRef hi) λl hv' z40 g=>?_;subst z40
  subst hv'
  refine xEE (iZ S1 g hv) λxs n O=>?_
  exact getMethod_builtin ⟨_,O.x,rfl⟩ PySem.F.plainAttrs_list slot hty (λa e=>by cases e;exact⟨_,O.x,rfl⟩) (h S1 N1 O q))
def eM1(f g:EF)(k:Nat->List V->V->MH->EK->Prop):EF:=λlo H Q=>f lo H λa H1=>Lf a.rf λi=>(∃ vs,H1[i]? =some (.list vs))/\g lo H1 λv H2=>Lf (H2[i]?.bind MO.own) λvs=>k i vs v H2 Q
def bZ(f g:EF):EF:=eM1 f g λi vs v H2 Q=>vs.length<1000000/\Q .none (H2.set i (.list (vs++[v])))
theorem EV.append{o e:Expr}{f g:EF}{apos pos:Pos}(ho:EV C r env o f)(he:EV C r env e g)(sh:eX env o "append" apos pos [e])(ht:backTo pos (starEach [e] env)= [(false,eval e env)]):EV C r env (.Call (.Attribute o "append" apos) [e] [] pos) (bZ f g):=λ_ _ _ _ _ _ hr S F q=>oZ ho sh PySem.F.slot_list_append PySem.F.type_list_append hr S F q (λv H1 q=>q.elim λi hi q=>⟨i,q.1.choose,hi,q.1.choose_spec⟩) λS1 N1 O q=>by
  rw[ht]
  refine PySem.P.append_list (he.run hr S1 (F.nx N1) q.2 λ{_ s2 _ _ _} S2 N2 r2 q=>q.elim λvs hv q=>?_)
  refine xEE (iZ S2 (aO N2.pre O.g) (lZ hv)) λxs n O2=>?_
  have st:=O2.put (k:=s2.toks) S2 (λxs=>xs.push _) (by simpa using O2.r.append (.cons r2 .nil))
  exact⟨xs,n,by rw[sizeLine_eq,O2.r.sz];omega,O2.x,st.1,(N1.trans N2).trans (st.2 _),.none,q.2⟩
def eM0(f:EF)(k:Nat->List V->MH->EK->Prop):EF:=λlo H Q=>f lo H λa H1=>Lf a.rf λi=>Lf (H1[i]?.bind MO.own) λvs=>vs.length<1000000/\k i vs H1 Q
def ePop(f:EF):EF:=eM0 f λi vs H1 Q=>Lf vs[vs.length-1]? λv=>Q v (H1.set i (.list (vs.eraseIdx (vs.length-1))))
theorem VRs.erase{ρ:List Lc}{h:Heap}:∀ {us:List Value}{vs:List V} (j:Nat),VRs ρ h us vs->VRs ρ h (us.eraseIdx j) (vs.eraseIdx j)
 |_,_,_,.nil=>.nil
 |_,_,0,.cons a b=>b
 |_,_,j+1,.cons a b=>.cons a (VRs.erase j b)
theorem iV.same{H:MH}{ρ:List Lc}{s:Shared}{i:Nat}{l:Lc}{vs ws:List V}{xs:Array Value}{n:Nat}(O:iV H ρ s i l vs xs n)(e:H[i]?.bind MO.own=some ws):ws=vs:=by
 rw[O.h]at e;exact(Option.some.inj e).symm
theorem EV.pop{o:Expr}{f:EF}{apos pos:Pos}(ho:EV C r env o f)(sh:eX env o "pop" apos pos []):EV C r env (.Call (.Attribute o "pop" apos) [] [] pos) (ePop f):=λ_ _ _ _ _ _ hr S F q=>oZ ho sh PySem.F.slot_list_pop PySem.F.type_list_pop hr S F q (λv H1 q=>q.elim λi hi q=>q.elim λvs hv _=>⟨i,vs,hi,lZ hv⟩) λ{s1 ρ1 l i vs xs n H1} S1 N1 O q=>by
  refine q.elim λi' hi q=>?_
  cases hi
  refine q.elim λws hw q=>?_
  obtain rfl:=O.same hw
  refine q.2.elim λv hv q2=>?_
  refine xEA (O.r.get hv) λu hu ru=>?_
  have hsz:=O.r.sz
  refine PySem.P.pop_list O.x (y:=u) (by rw[hsz];simpa using hu) ?_ (by rw[sizeLine_eq];omega)
  have st:=O.put (k:=s1.toks) S1 (vs':=ws.eraseIdx (ws.length-1)) (λys=>ys.eraseIdxIfInBounds (xs.size-1)) (by
   rw[hsz]
   have:=VRs.erase (ws.length-1) O.r
   have e:(xs.eraseIdxIfInBounds (ws.length-1)).toList=xs.toList.eraseIdx (ws.length-1):=by
    unfold Array.eraseIdxIfInBounds
    split
    ·rw[Array.toList_eraseIdx]
    ·rename_i hh;rw[List.eraseIdx_of_length_le (by simp;exact A9 hh)]
   rw[e];exact this)
  exact⟨st.1,N1.trans (st.2 _),ru.nx (st.2 noW),q2⟩
def iS(vs:List V):Option (List Int):=vs.mapM Ti
theorem pM{ρ:List Lc}{h:Heap}{us:List Value}{vs:List V}(r:VRs ρ h us vs):∀ {is:List Int},iS vs=some is->∃ ts:List Tok,ts.length=is.length/\us=(is.zip ts).map λx=>Value.int x.1 x.2:=r.ind (P:=λus vs=>∀ {is:List Int},iS vs=some is->∃ ts:List Tok,ts.length=is.length/\us=(is.zip ts).map λx=>Value.int x.1 x.2) (λe=>by cases e;exact⟨[],rfl,rfl⟩) λ{u us v vs} a _ ih {is} e=>by
  simp only[iS,mapM_cons,bind_eq_bind,bind_eq_some_iff,pure_def,Option.some.injEq]at e
  refine w8 e λi h1 js h2 z42=>?_;clear e;subst z42
  refine xEA (ih h2) λts h3 h4=>?_
  exact VR.ti (P:=λu=>∃ ts:List Tok,ts.length=(i::js).length/\u::_=((i::js).zip ts).map λx=>Value.int x.1 x.2) a h1 λt=>⟨t::ts,congrArg (·+1) h3,congrArg (Value.int i t::·) h4⟩
end
section
variable {C:Cx}{r:Nat}{env:Env}
def pRng(C:Cx):ItP C (Int×Nat×Int) where
 nx:=λit H=>some (match it with | (x,n+1,c)=>some (.int x,(x+c,n,c)) | (_,0,_)=>none)
 rel:=λρ s it a=>IsRangeIter s.heap a it.1 it.2.1 it.2.2
 T:="range_iterator"
 own:=by decide
 mono:=λh1 e i hk=>hk _ h1
 obj:=λh1=>⟨_,h1,rfl,by simp [aV]⟩
 item:=by
  rintro A s ρ H ⟨x,n,c⟩ a v it' Q hh S h1 e k
  cases n with
  |succ n=>
   cases e
   refine wpAny_pyNext_range_item h1 (by simp) λh' h2 hs=>k _ h' _ hs (.int _ _) λs' hs' im=>?_
   subst hs'
   simpa using h2
  |zero=>cases e
 fin:=by
  rintro A s ρ H ⟨x,n,c⟩ a Q hh S h1 e k
  cases n with
  |succ n=>cases e
  |zero=>exact wpAny_pyNext_range_end hh h1 (by simp) λh' he=>k h' he
noncomputable abbrev hV(C:Cx):ItK C:=(pRng C).it
def V.rn:V->Option (Int×Int×Int) | .rng a b c=>some (a,b,c) |_=>Option.none
theorem VR.toRng{ρ:List Lc}{h:Heap}{u:Value}{v:V}{p:Int×Int×Int}(r:VR ρ h u v)(e:v.rn=some p):∃ a t1 t2 t3,u= .ref a/\IsRange h a p.1 p.2.1 p.2.2 t1 t2 t3:=by
 cases v with
 |rng a b c=>cases e;exact r.inv
 |_=>first |exact aG e |cases e
def rOk(a b c:Int):Bool:=decide (-1000000<a) && decide (a<1000000) && decide (-1000000<b) && decide (b<1000000) && (c==1 || c== -1)
def oO(a b c:Int):Nat:=bif c==1 then(b-a).toNat else(a-b).toNat
theorem rOk_1{a b c:Int}(h:rOk a b c=true): -1000000<a/\a<1000000/\ -1000000<b/\b<1000000/\(c=1\/c= -1):=by
 have h1:=and_eq_true_iff.mp h
 have h2:=and_eq_true_iff.mp h1.1
 have h3:=and_eq_true_iff.mp h2.1
 have h4:=and_eq_true_iff.mp h3.1
 exact⟨of_decide_eq_true h4.1,of_decide_eq_true h4.2,of_decide_eq_true h3.2,of_decide_eq_true h2.2,(Bool.or_eq_true_iff.mp h1.2).imp eq_of_beq eq_of_beq⟩
theorem rSz(a b:Int):Builtin.Range.rangeSize a b 1=((b-a).toNat:Int):=by
 unfold Builtin.Range.rangeSize
 rw[if_pos (by decide)]
 by_cases q:a<b
 ·rw[if_pos q,Int.ediv_one,Int.sub_add_cancel]
  exact(Int.toNat_of_nonneg (sub_nonneg_of_le (le_of_lt q))).symm
 ·rw[if_neg q,Int.toNat_of_nonpos (Int.sub_nonpos_of_le (not_lt.mp q))];rfl
theorem rSzM(a b:Int):Builtin.Range.rangeSize a b (-1)=((a-b).toNat:Int):=by
 unfold Builtin.Range.rangeSize
 rw[if_neg (by decide),show-(-1:Int)=1 from rfl]
 by_cases q:b<a
 ·rw[if_pos q,Int.ediv_one,Int.sub_add_cancel]
  exact(Int.toNat_of_nonneg (sub_nonneg_of_le (le_of_lt q))).symm
 ·rw[if_neg q,Int.toNat_of_nonpos (Int.sub_nonpos_of_le (not_lt.mp q))];rfl
theorem uE{a b c:Int}(h:rOk a b c=true):Builtin.Range.rangeSize a b c=(oO a b c:Int)/\Builtin.Range.small a b c=true/\oO a b c<2000000:=by
 refine xAAAA (rOk_1 h) λh1 h2 h3 h4 z45=>?_
 rcases z45 with rfl |rfl
 ·have hl:(b-a).toNat<2000000:=A10 h1 h4
  refine⟨rSz a b,?_,hl⟩
  unfold Builtin.Range.small
  rw[rSz]
  unfold Builtin.Range.rangeFitsLong
  simp;exact A11 h2 h3 hl
 ·have hl:(a-b).toNat<2000000:=by exact AF1 h2 h3
  refine⟨rSzM a b,?_,hl⟩
  unfold Builtin.Range.small
  rw[rSzM]
  unfold Builtin.Range.rangeFitsLong
  simp;exact AF0 h1 h4 hl
def iR(f:EF):Lo->MH->(Int×Nat×Int->MH->Prop)->Prop:=λlo H Q=>f lo H λv H1=>Lf v.rn λp=>rOk p.1 p.2.1 p.2.2=true/\Q (p.1,oO p.1 p.2.1 p.2.2,p.2.2) H1
theorem IV.range{e:Expr}{f:EF}(h:EV C r env e f):IV (hV C) r env e (iR f):=λ_ _ _ _ _ _ hr S F q=>h.run hr S F q λS1 N1 r1 q=>q.elim λp hp q=>by
  refine xAA (uE q.1) λk1 k2 k3=>?_
  refine lN (r1.toRng hp) λa t1 t2 t3 z46 g=>?_;subst z46
  refine wpAny_pyIter_range g k2 ?_
  rw[k1]
  exact t7.mk (K:=hV C) (it:=(p.1,oO p.1 p.2.1 p.2.2,p.2.2)) (S1.push _) (N1.trans (.push _)) ⟨_,rfl,rfl,show IsRangeIter _ _ _ _ _ from Heap.get?_push_size _ rfl⟩ (λb hb=>by rw[show b=_ from hb];exact cP N1 S1 (bD _)) q.2
theorem VRs.a1{ρ:List Lc}{h:Heap}{us:List Value}{x:V}(r:VRs ρ h us [x]):∃ u,us= [u]/\VR ρ h u x:=by cases r with |cons a b=>cases b;exact⟨_,rfl,a⟩
theorem VRs.a2{ρ:List Lc}{h:Heap}{us:List Value}{x y:V}(r:VRs ρ h us [x,y]):∃ u v,us= [u,v]/\VR ρ h u x/\VR ρ h v y:=by cases r with |cons a b=>refine xEA b.a1 λv e c=>?_;exact⟨_,v,by rw[e],a,c⟩
def Tis(vs:List V):Option (List Int):=vs.mapM Ti
theorem VRs.ints{ρ:List Lc}{h:Heap}{us:List Value}{vs:List V}{is:List Int}(r:VRs ρ h us vs)(e:Tis vs=some is):∃ ts:List Tok,ts.length=is.length/\us=(is.zip ts).map λx=>Value.int x.1 x.2:=pM r e
theorem ts1{ts:List Tok}{a:Int}{us:List Value}(e:ts.length= [a].length)(h:us=(([a]:List Int).zip ts).map λx=>Value.int x.1 x.2):∃ t,us= [.int a t]:=by
 match ts,e with
 | [t],_=>exact⟨t,h⟩
theorem tcons{α:Type}{l:List α}{n:Nat}(e:l.length=n+1):∃ a t,l=a::t/\t.length=n:=by
 cases l with
 |nil=>exact absurd e.symm (Nat.succ_ne_zero _)
 |cons a t=>exact⟨a,t,rfl,Nat.succ.inj e⟩
theorem ts2{ts:List Tok}{a b:Int}{us:List Value}(e:ts.length= [a,b].length)(h:us=(([a,b]:List Int).zip ts).map λx=>Value.int x.1 x.2):∃ t u,us= [.int a t,.int b u]:=by
 refine gZ (tcons e) λt l z e1=>?_;subst z
 refine gZ (tcons e1) λu l z e2=>?_;subst z
 rw[List.eq_nil_of_length_eq_zero e2]at h
 exact⟨t,u,h⟩
theorem ts3{ts:List Tok}{a b c:Int}{us:List Value}(e:ts.length= [a,b,c].length)(h:us=(([a,b,c]:List Int).zip ts).map λx=>Value.int x.1 x.2):∃ t u v,us= [.int a t,.int b u,.int c v]:=by
 refine gZ (tcons e) λt l z e1=>?_;subst z
 refine gZ (tcons e1) λu l z e2=>?_;subst z
 refine gZ (tcons e2) λv l z e3=>?_;subst z
 rw[List.eq_nil_of_length_eq_zero e3]at h
 exact⟨t,u,v,h⟩
theorem aAc{α β:Type}{F:List α->Option β}{l:List α}{b:β}(e:F l=some b)(h0:F []=none)(h2:∀ a c t,F (a::c::t)=none):∃ a,l= [a]:=by
 cases l with
 |nil=>rw[h0]at e;cases e
 |cons a l=>cases l with
  |nil=>exact⟨_,rfl⟩
  |cons c l=>rw[h2]at e;cases e
theorem pI{α β:Type}{F:List α->Option β}{l:List α}{b:β}(e:F l=some b)(h0:F []=none)(h1:∀ a,F [a]=none)(h2:∀ a c d t,F (a::c::d::t)=none):∃ a c,l= [a,c]:=by
 cases l with
 |nil=>rw[h0]at e;cases e
 |cons a l=>exact xEA (p0:=λc=>l= [c]) (p1:=λ_=>True) (let ⟨c,e⟩:=aAc (F:=λl=>F (a::l)) e (h1 a) (h2 a);⟨c,e,trivial⟩) λc e _=>⟨a,c,by rw[e]⟩
theorem aAb{α β:Type}{F:List α->Option β}{l:List α}{b:β}(e:F l=some b)(h0:F []=none)(h1:∀ a,F [a]=none)(h3:∀ a c,F [a,c]=none)(h2:∀ a c d g t,F (a::c::d::g::t)=none):∃ a c d,l= [a,c,d]:=by
 cases l with
 |nil=>rw[h0]at e;cases e
 |cons a l=>exact let ⟨c,d,e⟩:=pI (F:=λl=>F (a::l)) e (h1 a) (h3 a) (h2 a);⟨a,c,d,by rw[e]⟩
def rngF(H:MH)(is:List Int):Option (V×MH):=match is with
 | [n]=>some (.rng 0 n 1,H)
 | [a,b]=>some (.rng a b 1,H)
 | [a,b,c]=>if c= -1 then some (.rng a b c,H) else none
 |_=>none
def cY:CF:=lf λvs H=>(Tis vs).bind (rngF H)
theorem l123{α β:Type}{F:List α->Option β}{l:List α}{b:β}(e:F l=some b)(h0:F []=none)(h4:∀ a c d g t,F (a::c::d::g::t)=none):(∃ a,l= [a])\/(∃ a c,l= [a,c])\/∃ a c d,l= [a,c,d]:=by
 cases l with
 |nil=>rw[h0]at e;cases e
 |cons a l=>cases l with
  |nil=>exact .inl ⟨_,rfl⟩
  |cons c l=>cases l with
   |nil=>exact .inr (.inl ⟨_,_,rfl⟩)
   |cons d l=>cases l with
    |nil=>exact .inr (.inr ⟨_,_,_,rfl⟩)
    |cons g l=>rw[h4]at e;cases e
theorem CV.range:CV C r (.type "range") cY:=.of d7 λ{A s ρ H us vs v H'} hr S rs e=>by
 refine xEA (bind_eq_some_iff.mp e) λis hi e=>?_
 refine xEA (rs.ints hi) λts h1 h2=>?_
 refine Or.elim (l123 (F:=rngF H) e rfl λ_ _ _ _ _=>rfl) (λz=>?_) λz=>Or.elim z (λz=>?_) λz=>?_
 ·refine xE z λa z=>?_;subst z;refine xE (ts1 h1 h2) λt z47=>?_;subst z47;cases e;exact call_range_1 ⟨ρ,(S.push _).toks _,(Nx.push _).trans (.toks _),.rng (Heap.get?_push_size _ rfl)⟩
 ·refine xEE z λa b z=>?_;subst z;refine xEE (ts2 h1 h2) λt u z48=>?_;subst z48;cases e;exact call_range_2 ⟨ρ,(S.push _).toks _,(Nx.push _).trans (.toks _),.rng (Heap.get?_push_size _ rfl)⟩
 ·refine sM z λa b c z=>?_;subst z;refine sM (ts3 h1 h2) λt u w z48=>?_;subst z48
  replace e:=show (if _ then _ else _)=_ from e
  split at e
  ·rename_i z49
   subst z49
   cases e;exact call_range_3 (by decide) ⟨ρ,(S.push _).toks _,(Nx.push _).trans (.toks _),.rng (Heap.get?_push_size _ rfl)⟩ (.inl (PyProof.noPylong_small (by decide)))
  ·exact aG e
end
section
variable {C:Cx}{r:Nat}{env:Env}
theorem EPo.ext{ρ:List Lc}{s:Shared}{H:MH}{v:V}{x:Value}{h':Heap}{k:Nat}(S:Sim C H ρ s)(hk:∀ b o,s.heap.get? b=some o->h'.get? b=some o)(rv:VR ρ s.heap x v):EPo C ρ s H v x {s with heap:=h',toks:=k}:=⟨ρ,S.ext hk,.ext hk,rv.mono (prefix_refl _) (dX hk)⟩
def one(vs:List V):Option V:=match vs with | [v]=>some v |_=>none
theorem f9{ρ:List Lc}{h:Heap}{us:List Value}{vs:List V}{v:V}(r:VRs ρ h us vs)(e:one vs=some v):∃ u,us= [u]/\VR ρ h u v:=by
 refine xE (aAc (F:=one) e rfl λ_ _ _=>rfl) λa z=>?_;subst z;cases e;exact r.a1
def cLen:CF:=lf λvs H=>(one vs).bind λv=>(lst H v).bind λxs=>if xs.length<1000000 then some (.int xs.length,H) else none
theorem CV.len:CV C r (.builtin "len") cLen:=.of b6 λ{A s ρ H us vs v H'} hr S rs e=>by
 refine xEA (bind_eq_some_iff.mp e) λx hx e=>?_
 refine xEA (bind_eq_some_iff.mp e) λxs hl e=>?_
 refine xEA (f9 rs hx) λu z49 ru=>?_;subst z49
 split at e
 ·first |exact aG e |cases e
  refine bL (b5 S ru hl) λad ys z50 h2 h3=>?_;subst z50
  have:=h3.sz
  refine call_len_list h2 (by omega) ?_
  rw[this]
  exact .tok S (.int _ _)
 ·first |exact aG e |cases e
def c2F(f:Int->Int->Int)(H:MH)(is:List Int):Option (V×MH):=match is with | [a,b]=>some (.int (f a b),H) |_=>none
def c2(f:Int->Int->Int):CF:=lf λvs H=>(Tis vs).bind (c2F f H)
theorem CV.c2{x:String}{f:Int->Int->Int}(h:∀ {A:Around}{s:Shared}{a b:Int}{t u:Tok}{Q:Value->Shared->Prop},A.handled=none->(∀ h' tk t,(∀ b o,s.heap.get? b=some o->h'.get? b=some o)->Q (.int (f a b) t) {s with heap:=h',toks:=tk})->
  wpAny C.M A (PySem.call (.builtin x) [.int a t,.int b u]) Q NoE s):CV C r (.builtin x) (c2 f):=CV.of b6 λ{A s ρ H us vs v H'} hr S rs e=>by
 refine xEA (bind_eq_some_iff.mp e) λis hi e=>?_
 refine xEA (rs.ints hi) λts h1 h2=>?_
 refine xEE (pI (F:=c2F f H) e rfl (λ_=>rfl) λ_ _ _ _=>rfl) λa b z=>?_;subst z
 refine xEE (ts2 h1 h2) λt u z51=>?_;subst z51;cases e;exact h hr.1 λh' tk t hk=>.ext S hk (.int _ _)
def tW:CF:=c2 max
theorem CV.max:CV C r (.builtin "max") tW:=CV.c2 λ{A s a b t u Q} hh k=>max_two_ints hh λh' tk hk=>by
 by_cases q:b>a
 ·rw[if_pos q];have:=k h' tk u hk;rwa [Int.max_eq_right (le_of_lt q)]at this
 ·rw[if_neg q];have:=k h' tk t hk;rwa [max_eq_left (not_lt.mp q)]at this
def jC:CF:=c2 min
theorem CV.min:CV C r (.builtin "min") jC:=CV.c2 λ{A s a b t u Q} hh k=>min_two_ints hh λh' tk hk=>by
 by_cases q:b<a
 ·rw[if_pos q];have:=k h' tk u hk;rwa [Int.min_eq_right (le_of_lt q)]at this
 ·rw[if_neg q];have:=k h' tk t hk;rwa [Int.min_eq_left (not_lt.mp q)]at this
def cSum:CF:=lf λvs H=>(one vs).bind λv=>(lst H v).bind λxs=>(iS xs).map λis=>(.int is.sum,H)
theorem CV.sum:CV C r (.builtin "sum") cSum:=.of b6 λ{A s ρ H us vs v H'} hr S rs e=>by
 refine xEA (bind_eq_some_iff.mp e) λx hx e=>?_
 refine xEA (bind_eq_some_iff.mp e) λxs hl e=>?_
 refine xEA (map_eq_some_iff.mp e) λis hi e=>?_
 cases e
 refine xEA (f9 rs hx) λu z52 ru=>?_;subst z52
 refine bL (b5 S ru hl) λad ys z53 h2 h3=>?_;subst z53
 refine xEA (pM h3 hi) λts ht1 ht2=>?_
 have hys:ys=intItems (is.zip ts).toArray:=by
  apply Array.toList_inj.mp
  rw[ht2]
  simp [intItems]
 rw[hys]at h2
 refine sum_intListG hr.1 h2 λh' tk t' hk=>?_
 have:preSum (numAt (is.zip ts).toArray) (is.zip ts).toArray.size=is.sum:=by
  rw[preSum_eq,List.take_of_length_le (by simp)]
  congr 1
  simp only[List.map_fst_zip (Nat.le_of_eq ht1.symm)]
 rw[this]
 exact .ext S hk (.int _ _)
def cSet:CF:=lf λvs H=>if vs.isEmpty then some (.ref H.length,H++[.eset]) else none
theorem CV.set:CV C r (.type "set") cSet:=.of d7 λ{A s ρ H us vs v H'} hr S rs e=>by
 split at e
 ·first |exact aG e |cases e
  cases rs with
  |nil=>exact call_set_0 λled=>⟨_,S.alloc _ .eset ⟨rfl,rfl,_,_,Heap.get?_push_size _ rfl,by cases led<;>decide⟩,.alloc _,VR.ref (l:=⟨s.heap.objs.size,s.heap.objs.size,none⟩) S.last⟩
  |cons _ _=>rename_i h;cases h
 ·first |exact aG e |cases e
theorem Sim.grown{H:MH}{ρ:List Lc}{s:Shared}{h':Heap}{k:Nat}{xs:Array Value}{n:Nat}{vs:List V}(S:Sim C H ρ s)(hk:∀ b o,s.heap.get? b=some o->h'.get? b=some o)(hx:IsL h' s.heap.objs.size xs n)(hv:VRs ρ h' xs.toList vs):EPo C ρ s (H++[.list vs]) (.ref H.length) (.ref s.heap.objs.size) {s with heap:=h',toks:=k}:=let g:=S.grow (k:=k) (l:=⟨s.heap.objs.size,s.heap.objs.size,none⟩) (m:=.list vs) hk (bD _) (bD _) rfl ⟨rfl,rfl,xs,n,hx,hv.mono (prefix_append _ _) (.refl _)⟩
 ⟨_,g.1,g.2 _,VR.ref (l:=⟨s.heap.objs.size,s.heap.objs.size,none⟩) S.last⟩
def yP(a c:Int):Nat->List V
 |0=>[]
 |n+1=>.int a::yP (a+c) c n
theorem rE{ρ:List Lc}{h:Heap}:∀ (n:Nat) (a c:Int) (us:List Value),us.length=n->(∀ (i:Nat) (u:Value),us[i]? =some u->∃ t,u=Value.int (a+(i:Int)*c) t)->VRs ρ h us (yP a c n)
 |0,a,c,[],_,_=>VRs.nil
 |0,a,c,_::_,hl,_=>by simp at hl
 |n+1,a,c,[],hl,_=>by simp at hl
 |n+1,a,c,u::us,hl,hu=>by
  refine xE (hu 0 u rfl) λt e=>?_
  simp at e
  subst e
  refine VRs.cons (VR.int _ _) (rE n (a+c) c us (by simpa using hl) λi u h=>?_)
  refine xE (hu (i+1) u (by simpa using h)) λt e=>?_
  refine⟨t,e.trans ?_⟩
  congr 1
  rw[add_assoc]
  congr 1
  simp only[Int.natCast_add,Int.add_mul]
  omega
def aCa(vs:List V)(H:MH):Option (V×MH):=(one vs).bind λv=>match v.rn with
 |some p=>if rOk p.1 p.2.1 p.2.2 then mkL (yP p.1 p.2.2 (oO p.1 p.2.1 p.2.2)) H else none
 |none=>(lst H v).bind λxs=>mkL xs H
def cList:CF:=lf aCa
theorem aDx{A:Around}{s:Shared}{ρ:List Lc}{H:MH}{us:List Value}{vs:List V}{v:V}{H':MH}(hr:Room r A)(S:Sim C H ρ s)(rs:VRs ρ s.heap us vs)(e:aCa vs H=some (v,H')):wpAny C.M A (PySem.call (.type "list") us) (EPo C ρ s H' v) NoE s:=by
 refine xEA (bind_eq_some_iff.mp e) λx hx e=>?_
 refine xEA (f9 rs hx) λu z54 ru=>?_;subst z54
 split at e
 ·rename_i p hp
  split at e
  ·rename_i hok
   refine hN e λhlen e=>?_
   cases e
   refine xAA (uE hok) λk1 k2 k3=>?_
   refine lN (ru.toRng hp) λa t1 t2 t3 z55 g=>?_;subst z55
   refine call_list_range hr.1 g k2 k1 (by omega) λh' tk acc' c' hk hS hacc=>S.grown hk hS ?_
   exact rE _ _ _ _ (by simpa using hacc.1) λi u hu=>hacc.2 i u (by simpa using hu)
  ·first |exact aG e |cases e
 ·refine xEA (bind_eq_some_iff.mp e) λxs hl e=>?_
  refine hN e λhlen e=>?_
  cases e
  refine bL (b5 S ru hl) λad ys z56 z57 h3=>?_;subst z56;obtain⟨o,ho,hc,n,hd⟩:=z57
  have:=h3.sz
  exact call_list_seq ad (.inl rfl) ho hc hd (λh' c' hk hD=>S.grown (k:=s.toks) hk hD (h3.mono (prefix_refl _) (dX hk))) (by rw[sizeLine_eq];exact A12 hlen this)
theorem CV.list:CV C r (.type "list") cList:=.of d7 aDx
end
section
section
variable {prog:Program}{w:World}{A:Around}{E:Value->Shared->Prop}{s:Shared}
theorem t4(a b n:Nat)(ha:a<=b)(hb:b<=n):Builtin.Slice.sliceAdjust (some (a:Int)) (some (b:Int)) 1 (n:Int)=((a:Int),(b:Int)):=by
 unfold Builtin.Slice.sliceAdjust
 have h1: ¬((1:Int)<0):=A13
 have h2: ¬((a:Int)<0):=A14
 have h3: ¬((b:Int)<0):=A14
 simp only[h1,h2,h3,if_false]
 congr 1<;>omega
theorem sX(a b:Nat)(ha:a<=b):Builtin.Slice.slicePlaces (a:Int) (b:Int) 1=b-a:=by
 unfold Builtin.Slice.slicePlaces
 have h1:(1:Int)>0:=A15
 simp only[h1,if_true,Int.ediv_one]
 split<;>omega
theorem jV{sl:Addr}{a b n:Nat}{u u':Tok}{Q:Int×Int×Nat->Shared->Prop}(hs:s.heap.IsSliceOf sl (.int a u) (.int b u') .none)(ha:a<=b)(hb:b<=n)(h:Q ((a:Int),1,b-a) s):wpAny (model prog w) A (Builtin.Slice.sliceApplied (.ref sl) (pure (n:Int))) Q E s:=by
 refine cX (id hs) λos hos hcs hds=>?_
 unfold Builtin.Slice.sliceApplied Builtin.Slice.sliceFields
 refine zzB (zzB (wpAny_field hos hds (x:=.int a u) rfl (zzB (wpAny_field hos hds (x:=.int b u') rfl (zzB (wpAny_field hos hds (x:=.none) rfl (zzP ?_)))))))
 refine zzB (slicePart_none ?_)
 show wpAny _ _ (if ((1:Int)==0)=true then _ else _) _ _ s
 rw[if_neg (by decide)]
 refine zzB (slicePart_int (zzB (slicePart_int (zzB (zzP ?_)))))
 show wpAny _ _ (match Builtin.Slice.sliceAdjust (some (a:Int)) (some (b:Int)) 1 (n:Int) with | (lo,hi)=>pure (lo,(1:Int),Builtin.Slice.slicePlaces lo hi 1)) _ _ s
 rw[t4 a b n ha hb]
 show wpAny _ _ (pure ((a:Int),(1:Int),Builtin.Slice.slicePlaces (a:Int) (b:Int) 1)) _ _ s
 rw[sX a b ha]
 exact zzP h
theorem wJ(xs:Array Value)(a k:Nat):((List.range k).filterMap fun(j:Nat)=>xs[((a:Int)+(j:Int)*1).toNat]?).toArray=((xs.toList.drop a).take k).toArray:=by
 have e:(fun(k:Nat)=>xs[((a:Int)+(k:Int)*1).toNat]?)=λk=>xs[a+k]? :=by
  funext k
  have:((a:Int)+(k:Int)*1).toNat=a+k:=by omega
  rw[this]
 rw[e]
 have:=pick_run xs a k
 rw[List.filterMap_map]at this
 have e2:((λx=>xs[x]?)∘λx=>a+x)=λk=>xs[a+k]? :=rfl
 rw[e2]at this
 rw[this]
theorem jM{t sl:Addr}{items:Array Value}{a b:Nat}{u u':Tok}{Q:Value->Shared->Prop}(ht:IsTup s.heap t items)(hs:s.heap.IsSliceOf sl (.int a u) (.int b u') .none)(h1:1<=a)(hab:a<=b)(hb:b<=items.size)(h:Q (.ref s.heap.objs.size) {s with heap:=s.heap.push {cls:=.type "tuple",data:=.seq ((items.toList.drop a).take (b-a)).toArray}})
  (hsz:items.size<=sizeLine):wpAny (model prog w) A (getItem (.ref t) (.ref sl)) Q E s:=by
 have hdrop:sizeOk (.seq ((items.toList.drop a).take (b-a)).toArray):=by
  show((items.toList.drop a).take (b-a)).toArray.size<=sizeLine
  rw[size_toArray,List.length_take,List.length_drop,Array.length_toList]
  exact A16 hsz
 refine cX (id hs) λos hos hcs hds=>?_
 have hTs:s.TypeIs (.ref sl) "slice" :=⟨os,hos,hcs⟩
 unfold getItem
 try with_reducible refine wpAny_holding ?_
 first |refine zzB (zzP ?_) |skip
 refine zzB (wpAny_sequenceKey ht.typeIs (by decide) ?_)
 refine zzB (wpAny_callSpecial?_slot (name:=Str.ofString "__getitem__") ht.typeIs slot_tuple_getitem
  (wpAny_call_entry slot_tuple_getitem ht.typeIs entry_tuple_getitem ?_ (args_tuple_getitem _ _)))
 show wpAny _ _ (Builtin.Tuple.tupleItemsOf (.ref t) >>=_) _ _ s
 refine zzB (tupleItemsOf_ ht ?_)
 refine zzB (wpAny_typeOf hTs ?_)
 rw[if_pos (by decide)]
 refine zzB (jV hs hab hb ?_)
 have hno: ¬(((a:Int)==0 && (1:Int)==1 && (b-a)==items.size)=true):=by
  have:((a:Int)==0)=false:=by rw[beq_eq_false_iff_ne];exact A17 h1
  rw[this];simp
 show wpAny _ _ (if ((a:Int)==0 && (1:Int)==1 && (b-a)==items.size)=true then _ else _) _ _ s
 rw[if_neg hno,wJ items a (b-a)]
 first
  |exact zzB (m:=Builtin.Tuple.tupleExact _) (wpAny_newObj_type (zzP ⟨_,rfl,zzP h⟩) hdrop)
  |exact zzB (m:=Builtin.Tuple.tupleExact _) (wpAny_newObj_type (zzB (zzP (zzP ⟨_,rfl,zzP h⟩))) hdrop)
  |exact zzB (zzB (m:=Builtin.Tuple.tupleExact _) (wpAny_newObj_type (zzP (zzP ⟨_,rfl,zzP h⟩)) hdrop))
  |exact zzB (zzB (m:=Builtin.Tuple.tupleExact _) (wpAny_newObj_type (zzP ⟨_,rfl,zzP h⟩) hdrop))
end
variable {C:Cx}{r:Nat}{env:Env}
def PV(C:Cx)(r:Nat)(env:Env)(e:Option Expr)(f:EF):Prop:=∀ ⦃A:Around⦄⦃s:Shared⦄⦃ρ:List Lc⦄⦃H:MH⦄⦃lo:Lo⦄⦃Q:EK⦄,Room r A->Sim C H ρ s->Fm C env ρ s lo->f lo H Q->
  wpAny C.M A (evalPart e env) (bK C ρ s Q) NoE s
theorem PV.none:PV C r env Option.none (eK .none):=λ_ _ _ _ _ _ _ S _ q=>zzP (.here S .none q)
theorem PV.some{e:Expr}{f:EF}(h:EV C r env e f):PV C r env (Option.some e) f:=h
def prt:V->Option (Option Int)
 | .none=>some none
 | .int i=>some (some i)
 |_=>none
theorem sW{ρ:List Lc}{h:Heap}{u:Value}{v:V}{p:Option Int}(r:VR ρ h u v)(e:prt v=some p):IsPart u p:=by
 cases v with
 |none=>cases e;cases(show u= .none from r.inv);exact .none
 |int=>cases e;refine xE r.inv λt z58=>?_;subst z58;exact .int _ _
 |_=>first |exact aG e |cases e
def uI(vs:List V)(lo hi st:Option Int):List V:=(sliceRange (sliceBounds lo hi st vs.length).1 (sliceBounds lo hi st vs.length).2.1 (sliceBounds lo hi st vs.length).2.2).filterMap (vs[·]?)
theorem VRs.pick{ρ:List Lc}{h:Heap}{us:List Value}{vs:List V}(rs:VRs ρ h us vs):∀ idx:List Nat,VRs ρ h (idx.filterMap (us[·]?)) (idx.filterMap (vs[·]?))
 | []=>.nil
 |i::idx=>by
  simp only[List.filterMap_cons]
  cases hv:vs[i]? with
  |none=>
   have:us[i]? =none:=by
    rw[getElem?_eq_none_iff]at hv ⊢;rw[rs.length];exact hv
   rw[this];exact rs.pick idx
  |some v=>
   refine xEA (rs.get hv) λu hu ru=>?_
   rw[hu];exact .cons ru (rs.pick idx)
def slcT(vs:List V)(lo hi st:Option Int):Option (List V):=match lo,hi,st with
 |some a,some b,none=>if 1<=a/\a<=b/\b<=vs.length/\vs.length<1000 then some ((vs.drop a.toNat).take (b.toNat-a.toNat)) else none
 |some a,none,none=>if 1<=a/\a<=vs.length/\vs.length<1000 then some (vs.drop a.toNat) else none
 |_,_,_=>none
def slc(v:V)(lo hi st:Option Int)(H:MH):Option (V×MH):=match v.tp with
 |some vs=>(slcT vs lo hi st).map λws=>(.tup ws,H)
 |none=>(lst H v).bind λvs=>if vs.length<1000000/\st≠some 0 then mkL (uI vs lo hi st) H else none
def sB(f f1 f2 f3:EF):EF:=λlo H Q=>f lo H λv H0=>f1 lo H0 λa H1=>f2 lo H1 λb H2=>f3 lo H2 λc H3=>Lf (prt a) λpa=>Lf (prt b) λpb=>Lf (prt c) λpc=>Lp (slc v pa pb pc H3) Q
theorem aC5{h:Heap}{t sl:Addr}{items:Array Value}{a b c:Value}{vs ws:List V}{pa pb pc:Option Int}{ρ:List Lc}{prog:Program}{w:World}{A:Around}{s:Shared}{Q E:Value->Shared->Prop}(ht:IsTup s.heap t items)(hs:s.heap.IsSliceOf sl a b c)(rs:VRs ρ s.heap items.toList vs)(p1:IsPart a pa) (p2:IsPart b pb) (p3:IsPart c pc) (e:slcT vs pa pb pc=some ws)(k:∀ ys:List Value,VRs ρ s.heap ys ws->Q (.ref s.heap.objs.size) {s with heap:=s.heap.push {cls:=.type "tuple",data:=.seq ys.toArray}}):wpAny (model prog w) A (getItem (.ref t) (.ref sl)) Q E s:=by
 have hsz:=rs.sz
 unfold slcT at e
 split at e
 ·rename_i a' b'
  split at e
  ·rename_i hb
   cases e
   cases p1;cases p2;cases p3
   refine xE (Int.eq_ofNat_of_zero_le (a:=a') (A18 hb)) λa0 z59=>?_;subst z59
   refine xE (Int.eq_ofNat_of_zero_le (a:=b') (A19 hb)) λb0 z60=>?_;subst z60
   exact jM ht hs (A20 hb) (A21 hb) (A22 hsz hb) (k _ ((rs.drop a0).take (b0-a0))) (by rw[sizeLine_eq];exact A23 hsz hb)
  ·first |exact aG e |cases e
 ·rename_i a'
  split at e
  ·rename_i hb
   cases e
   cases p1;cases p2;cases p3
   refine xE (Int.eq_ofNat_of_zero_le (a:=a') (A24 hb)) λa0 z61=>?_;subst z61
   exact getItem_tuple_from ht hs (A25 hb) (A26 hsz hb) (k _ (rs.drop a0)) (by rw[sizeLine_eq];exact A27 hsz hb)
  ·first |exact aG e |cases e
 ·first |exact aG e |cases e
theorem rT{A:Around}{s s1:Shared}{ρ:List Lc}{H:MH}{o a b c:Value}{v:V}{pa pb pc:Option Int}{v':V}{H':MH}{sl:Addr}(S1:Sim C H ρ s1)(N1:Nx ρ noW s ρ s1)(r1:VR ρ s1.heap o v)(hsl:s1.heap.IsSliceOf sl a b c)(p1:IsPart a pa)(p2:IsPart b pb)(p3:IsPart c pc)(e:slc v pa pb pc H=some (v',H')):∃ T id,s1.TypeIs o T/\typeLookup (.type T) "__getitem__" =pure (some (.builtin id))/\wpAny C.M A (getItem o (.ref sl)) (EPo C ρ s H' v') NoE s1:=by
 unfold slc at e
 split at e
 ·rename_i vs hvs
  refine cH (r1.toTup hvs) λt xs n _ z62 g rs=>?_;subst z62
  refine xEA (map_eq_some_iff.mp e) λws e1 e2=>?_
  cases e2
  have ht:IsTup s1.heap t xs:=⟨_,g,rfl,n,rfl⟩
  exact⟨"tuple",_,ht.typeIs,slot_tuple_getitem.lookup,aC5 (h:=s1.heap) ht hsl rs p1 p2 p3 e1 λys hy=>⟨ρ,S1.push _,N1.trans (.push _),.tup (Heap.get?_push_size _ rfl) (hy.mono (prefix_refl _) (eQ _ _))⟩⟩
 ·refine xEA (bind_eq_some_iff.mp e) λvs hl e=>?_
  split at e
  ·rename_i hlen
   refine hN e λ_ e=>?_
   cases e
   refine bL (b5 S1 r1 hl) λad xs z63 h2 h3=>?_;subst z63
   have hsz:=h3.sz
   refine⟨"list",_,h2.typeIs,list_getitem_lookup,wpAny_getItem_list_slice h2 hsl p1 p2 p3 hlen.2 ((S1.newList ?_).from N1) (by rw[sizeLine_eq];omega)⟩
   unfold slicePick uI
   rw[hsz]
   simpa using h3.pick _
  ·first |exact aG e |cases e
theorem kH{e:Expr}{l u st:Option Expr}{f f1 f2 f3:EF}(h:EV C r env e f)(h1:PV C r env l f1)(h2:PV C r env u f2)(h3:PV C r env st f3){p:Pos}{A:Around}{s:Shared}{ρ:List Lc}{H:MH}{lo:Lo}{Q:EK}(hr:Room r A)(S:Sim C H ρ s)(F:Fm C env ρ s lo)(q:sB f f1 f2 f3 lo H Q):wpAny C.M A (eval e env) (λo s₁=>wpAny C.M A (eval (.Slice l u st p) env) (λi s₂=>∃ T id,s₂.TypeIs o T/\typeLookup (.type T) "__getitem__" =pure (some (.builtin id))/\wpAny C.M A (getItem o i) (bK C ρ s Q) NoE s₂) NoE s₁) NoE s:=h.run hr S F q λS1 N1 r1 q=>wpAny_Slice (bK.run (h1 hr S1 (F.nx N1) q) λS2 N2 r2 q=>bK.run (h2 hr S2 ((F.nx N1).nx N2) q) λS3 N3 r3 q=>bK.run (h3 hr S3 (((F.nx N1).nx N2).nx N3) q) λ{c s4 ρ4 vc H4} S4 N4 r4 q=>
  q.elim λpa ea q=>q.elim λpb eb q=>q.elim λpc ec q=>q.elim λp es q=>by
   refine bL (rT (A:=A) (S4.push _) (.push _) ((((r1.nx N2).nx N3).nx N4).mono (prefix_refl _) (eQ _ _)) (Heap.IsSliceOf.new ..) (sW r2 ea) (sW r3 eb) (sW r4 ec) es) λT id k1 k2 k3=>?_
   exact⟨T,id,k1,k2,wmN k3 λ_ _ p=>(p.from (N1.trans (N2.trans (N3.trans N4)))).post q⟩)
theorem lR{e:Expr}{o i:Value}{ops:List Value}{A:Around}{s₂:Shared}{P:Value->Shared->Prop}(ht:∀ o x,letTemporaryGo e o x=pure ())(h:∃ T id,s₂.TypeIs o T/\typeLookup (.type T) "__getitem__" =pure (some (.builtin id))/\wpAny C.M A (getItem o i) P NoE s₂):wpAny C.M A (operate ops (getItem o i)) (λr s₃=>wpAny C.M A (letTemporaryGo e o r >>=λ_=>pure r) P NoE s₃) NoE s₂:=let ⟨_,_,_,_,h₂⟩:=h
 wpAny_operating (wpAny_mono h₂ (λr s₃ h₃=>zzB (wpAny_of_eq (ht o r) (zzP h₃))) λ_ _ x=>x)
theorem EV.slice{e:Expr}{l u:Option Expr}{p pos:Pos}{f f1 f2:EF}(h:EV C r env e f)(h1:PV C r env l f1)(h2:PV C r env u f2)(ht:∀ o x,letTemporaryGo e o x=pure ()):EV C r env (.Subscript e (.Slice l u Option.none p) pos) (sB f f1 f2 (eK .none)):=by
 intro A s ρ H lo Q hr S F q
 rw[eval_Subscript]
 refine zzB (wpAny_mono (kH (p:=p) (st:=Option.none) h h1 h2 PV.none hr S F q) (λo s₁ h₁=>zzB (wpAny_holding (wpAny_mono h₁ (λi s₂ h₂=>zzB (wpAny_standAt ?_)) λ_ _ x=>x)))
  λ_ _ x=>x)
 have fin:=lR (ops:=[i,o]) ht h₂
 refine bL h₂ λT id hT hl _=>?_
 refine zzB ?_
 rw[getitemInPython_of_ne hT.not_modules]
 refine zzB (wpAny_specialOf hT hl ?_)
 first
  |exact zzP (zzB fin)
  |exact zzB (zzP (zzB fin))
  |exact zzB fin
theorem EV.slice3{e st:Expr}{l u:Option Expr}{p pos:Pos}{f f1 f2 f3:EF}(h:EV C r env e f)(h1:PV C r env l f1)(h2:PV C r env u f2)(h3:EV C r env st f3)(ht:∀ o x,letTemporaryGo e o x=pure ()):EV C r env (.Subscript e (.Slice l u (some st) p) pos) (sB f f1 f2 f3):=by
 intro A s ρ H lo Q hr S F q
 rw[eval_Subscript]
 refine zzB (wpAny_mono (kH (p:=p) (st:=some st) h h1 h2 h3 hr S F q) (λo s₁ h₁=>zzB (wpAny_holding (wpAny_mono h₁ (λi s₂ h₂=>zzB (wpAny_standAt ?_)) λ_ _ x=>x)))
  λ_ _ x=>x)
 have fin:=lR (ops:=[o,i]) ht h₂
 refine bL h₂ λT id hT hl _=>?_
 refine zzB ?_
 rw[getitemInPython_of_ne hT.not_modules]
 refine zzB (wpAny_specialOf hT hl ?_)
 first
  |exact zzP (zzB fin)
  |exact zzB (zzP (zzB fin))
  |exact zzB fin
end
section
open PySem PySem.W PyProof.Rows PySem.Calls PyProof
variable {C:Cx}{r:Nat}{env:Env}
def PyData.kids:PyData->Option (Bool×List PyData) | .tuple xs=>some (true,xs) | .list xs=>some (false,xs) |_=>none
def inB(H:MH)(a b:V):Option Bool:=(rd H eqD a).bind λd=>((rd H eqD b).bind PyData.kids).bind λp=>if PyData.canLayAll0 p.2 && d.canLay0 && decide (d.depth<50) then some (p.2.any λy=>PyData.eqv y d) else none
def oIn(f:Bool->Bool):OpF:=λa b H=>(inB H a b).map λt=>(.bool (f t),H)
theorem Room.deep{r:Nat}{A:Around}(h:Room r A){n m:Nat}(hm:m<50):A.units+1+min n m<cLine:=by
 have:=h.2.2
 have h2:min n m<=m:=Nat.min_le_right _ _
 show _<9900
 exact A28 hm this
theorem aD1{d:PyData}{t:Bool}{xs:List PyData}(e:PyData.kids d=some (t,xs)):d=bif t then .tuple xs else .list xs:=by
 cases d with
 |tuple ys=>cases e;rfl
 |list ys=>cases e;rfl
 |_=>first |exact aG e |cases e
theorem OpR.in2{op:Value->Value->Sem Value}{f:Bool->Bool}(h1:∀ {A:Around}{s:Shared}{a b:Value}{d:PyData}{xs:List PyData}{as bs:List Addr}{Q:Value->Shared->Prop},Reads s.heap b (.tuple xs) bs->Reads s.heap a d as->PyData.canLayAll0 xs=true->d.canLay0=true->(∀ n,A.units+1+min n d.depth<cLine)->Q (.bool (f (xs.any λy=>PyData.eqv y d))) s->wpAny C.M A (op a b) Q NoE s)(h2:∀ {A:Around}{s:Shared}{a b:Value}{d:PyData}{xs:List PyData}{as bs:List Addr}{Q:Value->Shared->Prop},Reads s.heap b (.list xs) bs->Reads s.heap a d as->PyData.canLayAll0 xs=true->d.canLay0=true->(∀ n,A.units+1+min n d.depth<cLine)->Q (.bool (f (xs.any λy=>PyData.eqv y d))) s->wpAny C.M A (op a b) Q NoE s):OpR C r op (oIn f):=by
 refine OpR.of ?_
 intro A s ρ H a b va vb v H' hr S ra rb e
 refine xEA (map_eq_some_iff.mp e) λt e e3=>?_
 refine xEA (bind_eq_some_iff.mp e) λd hd e=>?_
 refine xEA (bind_eq_some_iff.mp e) λz64 hx e=>?_;obtain⟨tt,xs⟩:=z64
 refine xEA (bind_eq_some_iff.mp hx) λd2 hd2 hk=>?_
 split at e
 ·rename_i hs
  refine xE (eE S _ ra hd) λas r1=>?_
  refine xE (eE S _ rb hd2) λbs r2=>?_
  rw[aD1 hk]at r2
  cases e
  cases e3
  simp only[Bool.and_eq_true,decide_eq_true_eq]at hs
  cases tt with
  |true=>exact h1 r2 r1 hs.1.1 hs.1.2 (λn=>hr.deep hs.2) (.here S (.bool _))
  |false=>exact h2 r2 r1 hs.1.1 hs.1.2 (λn=>hr.deep hs.2) (.here S (.bool _))
 ·first |exact aG e |cases e
theorem OpR.in_:OpR C r (compareOp .In) (oIn id):=OpR.in2 (λr2 r1 h1 h2 h3 q=>PySem.SeqAt.in_tuple_reads r2 r1 h1 h2 (h3 _) q) λr2 r1 h1 h2 h3 q=>PySem.SeqAt.in_list_reads r2 r1 h1 h2 (h3 _) q
theorem OpR.notIn:OpR C r (compareOp .NotIn) (oIn not):=OpR.in2 (λr2 r1 h1 h2 h3 q=>PySem.SeqAt.notIn_tuple_reads r2 r1 h1 h2 (h3 _) q) λr2 r1 h1 h2 h3 q=>PySem.SeqAt.notIn_list_reads r2 r1 h1 h2 (h3 _) q
def V.no:V->Bool | .none=>true |_=>false
theorem VR.noT{ρ:List Lc}{h:Heap}{u:Value}{v:V}(r:VR ρ h u v)(e:v.no=true):u= .none:=by
 cases v with
 |none=>exact r.inv
 |_=>first |exact aG e |cases e
theorem VR.noF{ρ:List Lc}{h:Heap}{u:Value}{v:V}(r:VR ρ h u v)(e:v.no=false):u≠ .none:=by
 rintro rfl
 cases v with
 |none=>cases e
 |bool=>exact Value.noConfusion r.inv
 |int=>refine xE r.inv λ_ h=>?_;exact Value.noConfusion h
 |str=>refine xE r.inv λ_ h=>?_;exact Value.noConfusion h
 |tup=>refine gS r.inv λ_ _ _ h _=>?_;exact Value.noConfusion h
 |mat=>refine jE r.inv λ_ _ _ _ _ _ h _=>?_;exact Value.noConfusion h
 |ref=>refine xEA r.inv λ_ h _=>?_;exact Value.noConfusion h
 |dget=>refine gZ r.inv λ_ _ h _=>?_;exact Value.noConfusion h
 |scon=>refine gZ r.inv λ_ _ h _=>?_;exact Value.noConfusion h
 |rng=>refine lN r.inv λ_ _ _ _ h _=>?_;exact Value.noConfusion h
 |raw=>exact Value.noConfusion r.inv
def isV(a b:V)(H:MH):Option Bool:=bif b.no then some a.no else b.rf.bind λj=>bif a.no then some false else a.rf.bind λi=>if i=j then some true else(lst H a).map λ_=>false
theorem yO{H:MH}{ρ:List Lc}{s:Shared}{i j:Nat}{li lj:Lc}(S:Sim C H ρ s)(hi:ρ[i]? =some li)(hj:ρ[j]? =some lj)(h:i≠j):li.a≠lj.a:=λe=>S.disj i j li lj hi hj h li.a (.inl rfl) (.inl e)
def IsR(M:Model)(A:Around)(a b:Value)(t:Bool)(s:Shared):Prop:=∀ Q:Value->Shared->Prop,(Q (.bool t) s->wpAny M A (compareOp .Is a b) Q NoE s)/\(Q (.bool (!t)) s->wpAny M A (compareOp .IsNot a b) Q NoE s)
theorem is_ok{A:Around}{s:Shared}{ρ:List Lc}{H:MH}{a b:Value}{va vb:V}{t:Bool}(S:Sim C H ρ s)(ra:VR ρ s.heap a va)(rb:VR ρ s.heap b vb)(e:isV va vb H=some t):IsR C.M A a b t s:=by
 unfold isV at e
 cases hb:vb.no with
 |true=>
  rw[hb]at e
  rw[rb.noT hb]
  cases ha:va.no with
  |true=>rw[ha]at e;cases e;rw[ra.noT ha];exact λQ=>⟨λh=>wpAny_is_self rfl h,λh=>wpAny_isNot_self rfl h⟩
  |false=>rw[ha]at e;cases e;exact λQ=>⟨λh=>is_none_ne (ra.noF ha) h,λh=>isnot_none_ne (ra.noF ha) h⟩
 |false=>
  rw[hb]at e
  refine xEA (bind_eq_some_iff.mp e) λj hj e=>?_
  refine cX (rb.toRef hj) λlj _ z65 g=>?_;subst z65
  cases ha:va.no with
  |true=>rw[ha]at e;cases e;rw[ra.noT ha];exact λQ=>⟨λh=>wpAny_is_other rfl (by intro x;cases x) h,λh=>wpAny_isNot_other rfl (by intro x;cases x) h⟩
  |false=>
   rw[ha]at e
   refine xEA (bind_eq_some_iff.mp e) λi hi e=>?_
   refine cX (ra.toRef hi) λli _ hli g'=>?_
   split at e
   ·rename_i hij
    cases e
    subst hij
    rw[g]at g';cases g'
    subst hli
    exact λQ=>⟨λh=>wpAny_is_ref_self h,λh=>wpAny_isNot_ref_self h⟩
   ·rename_i hij
    refine xEA (map_eq_some_iff.mp e) λvs hl e=>?_
    cases e
    refine bL (b5 S ra hl) λad xs e1 z66 _=>?_;obtain⟨o,ho,hc,_⟩:=z66
    subst hli
    cases e1
    refine xA (S.live g) λz67 _=>?_;obtain⟨oj,hoj,_⟩:=z67
    have hc':o.cls≠ .type "tuple" :=by rw[hc];intro x;injection x with x;revert x;decide
    exact λQ=>⟨λh=>wpAny_is_ref_other (yO S g' g hij) ho hoj hc' h,λh=>wpAny_isNot_ref_other (yO S g' g hij) ho hoj hc' h⟩
def oIs(f:Bool->Bool):OpF:=λa b H=>(isV a b H).map λt=>(.bool (f t),H)
theorem OpR.is_:OpR C r (compareOp .Is) (oIs id):=OpR.of λhr S ra rb e=>by
 refine xEA (map_eq_some_iff.mp e) λt ht e=>?_
 cases e
 exact(is_ok S ra rb ht _).1 (.here S (.bool _))
theorem OpR.isNot:OpR C r (compareOp .IsNot) (oIs not):=OpR.of λhr S ra rb e=>by
 refine xEA (map_eq_some_iff.mp e) λt ht e=>?_
 cases e
 exact(is_ok S ra rb ht _).2 (.here S (.bool _))
end
section
variable {C:Cx}{r:Nat}{env:Env}
def eA:List (Str×Addr):=[("__init__",160),("set_seqs",167),("set_seq1",174),("set_seq2",181),("_SequenceMatcher__chain_b",188),("find_longest_match",196),("get_matching_blocks",203),("get_opcodes",210),("get_grouped_opcodes",218)]
structure SMC(C:Cx):Prop where
 cls:∃ nm q bs sn sub col dd k0 k1 k2 k3 k5,C.base.heap.get? dJ=some (excClassObj nm q dJ 241 bs [.type "object"] true sn sub false col dd k0 k1 k2 k3 k5 "object.__new__")
 ns:∃ mN,C.base.heap.Ns 241 mN/\(∀ x∈cS,mN x=none)/\mN "__getattribute__" =none/\mN "__getattr__" =none/\mN "__setattr__" =none/\∀ p∈eA,mN p.1=some (.ref p.2)
 fn:∀ p∈eA,∃ o,C.base.heap.get? p.2=some o/\o.cls= .type "function"
theorem rG:∀ x∈cS,typeLookup (.type "object") x=pure none:=by
 intro x hx
 simp only[cS,mem_cons,not_mem_nil,or_false]at hx
 rcases hx with rfl |rfl |rfl |rfl |rfl |rfl |rfl |rfl |rfl |rfl<;>(rw[typeLookup_type,builtinLookup_eq_fast];kernel_rfl)
theorem yV:∀ p∈eA,∃ y,typeLookup (.type "object") p.1=pure y:=by
 intro p hp
 simp only[eA,mem_cons,not_mem_nil,or_false]at hp
 rcases hp with rfl |rfl |rfl |rfl |rfl |rfl |rfl |rfl |rfl
 ·exact⟨some (.builtin "object.__init__"),by rw[typeLookup_type,builtinLookup_eq_fast];kernel_rfl⟩
 all_goals exact⟨none,by rw[typeLookup_type,builtinLookup_eq_fast];kernel_rfl⟩
theorem pN{H:MH}{ρ:List Lc}{s:Shared}{i:Nat}{l:Lc}{fs:Str->Option V}(S:Sim C H ρ s)(hl:ρ[i]? =some l)(hH:H[i]? =some (.inst fs)):∃ m,s.heap.InstFk l.a dJ m/\Within m cS/\∀ x,OV ρ s.heap (m x) (fs x):=by
 refine lO (S.objs i _ l hH hl) λg ne z77 m h5 h6 h7 h8=>?_;obtain⟨o,h1,h2,h3,h4⟩:=z77
 exact⟨m,⟨o,h1,h2,(λc=>by rw[h3];intro q;cases q),.inr ⟨l.d,h4,ne,h5,h6⟩⟩,h7,h8⟩
theorem VR.handed{ρ:List Lc}{h:Heap}{u:Value}{v:V}(rv:VR ρ h u v):handedOut u=pure u:=by
 cases rv<;>rfl
def MO.ins:MO->Option (Str->Option V) | .inst fs=>some fs |_=>none
theorem aAl{m:Option MO}{fs:Str->Option V}(e:m.bind MO.ins=some fs):m=some (.inst fs):=by
 refine xEA (bind_eq_some_iff.mp e) λm z78 h2=>?_;subst z78
 cases m with
 |inst f=>cases h2;rfl
 |_=>cases h2
def dY(x:Str)(f:EF):EF:=λlo H Q=>f lo H λa H1=>Lf a.rf λi=>Lf (H1[i]?.bind MO.ins) λfs=>Lf (fs x) λv=>Q v H1
theorem pS{A:Around}{s:Shared}{ρ:List Lc}{H:MH}{i:Nat}{l:Lc}{fs:Str->Option V}{x:Str}{v:V}{b:Bool}{K E:Value->Shared->Prop}(KK:SMC C)(hx:x∈cS)(S:Sim C H ρ s)(hl:ρ[i]? =some l)(hH:H[i]? =some (.inst fs))(hv:fs x=some v)(k:∀ u n,VR ρ s.heap u v->K u {s with toks:=n}):wpAny C.M A (getAttr (.ref l.a) x b) K E s:=by
 refine cX (pN S hl hH) λm I W hm=>?_
 refine fD KK.cls λnm q bs sn sub col dd k0 k1 k2 k3 k5 hC=>?_
 refine oE KK.ns λmN hn hna hng hga hsa hme=>?_
 refine(hm x).elim hv λu hmx ru=>?_
 obtain⟨hh,g,d,t,os⟩:=s
 exact load_attrFk (S.keep _ _ hC) (jG hn S.keep) hng (hna x hx) (rG x hx) I hmx (VR.handed ru) (k u _ ru)
theorem cW{e:Expr}{x:Str}{pos:Pos}{prog:Program}{w:World}{A:Around}{E:Value->Shared->Prop}{s:Shared}{Q:Value->Shared->Prop}(hb:attributeBase e x env (eval e env)=eval e env)(h:wpAny (model prog w) A (eval e env) (λo s1=>wpAny (model prog w) A (getAttr o x true) Q E s1) E s):wpAny (model prog w) A (eval (.Attribute e x pos) env) Q E s:=by
 show wpAny (model prog w) A (do
  let o<-attributeBase e x env (eval e env)
  standAt pos.atName
  let r<-holding [o] (getAttr o x true)
  letTemporaryGo e o r
  pure r) _ _ s
 rw[hb]
 refine zzB (wpAny_mono h ?_ λ_ _ z=>z)
 intro o s1 h1
 refine zzB (wpAny_standAt (zzB (wpAny_holding (wpAny_mono h1 ?_ λ_ _ z=>z))))
 intro y s2 p
 exact zzB (wpAny_letTemporaryGo (zzP p))
theorem EV.attr{e:Expr}{x:Str}{pos:Pos}{f:EF}(K:SMC C)(hx:x∈cS)(h:EV C r env e f)(hb:attributeBase e x env (eval e env)=eval e env)(ht:∀ o y,letTemporaryGo e o y=pure ()):EV C r env (.Attribute e x pos) (dY x f):=λ_ _ _ _ _ _ hr S F q=>cW hb (h.run hr S F q λS1 N1 r1 q=>q.elim λi hi q=>q.elim λfs hf q=>q.elim λv hv q=>by
  refine cX (r1.toRef hi) λl _ z79 g=>?_;subst z79
  exact pS K hx S1 g (aAl hf) hv λu n ru=>⟨S1.toks n,N1.trans (.toks n),ru,q⟩)
def fput(fs:Str->Option V)(x:Str)(v:V):Str->Option V:=λy=>if y=x then some v else fs y
theorem oM{A:Around}{s:Shared}{ρ:List Lc}{H:MH}{i:Nat}{l:Lc}{fs:Str->Option V}{x:Str}{u:Value}{v:V}{W:Addr->Prop}(K:SMC C)(hx:x∈cS)(S:Sim C H ρ s)(hl:ρ[i]? =some l)(hH:H[i]? =some (.inst fs))(rv:VR ρ s.heap u v):wpAny C.M A (setAttr (.ref l.a) x u) (λ_ s'=>Sim C (H.set i (.inst (fput fs x v))) ρ s'/\Nx ρ W s ρ s') NoE s:=by
 refine cX (pN S hl hH) λm I Wi hm=>?_
 refine fD K.cls λnm q bs sn sub col dd k0 k1 k2 k3 k5 hC=>?_
 refine oE K.ns λmN hn hna hng hga hsa hme=>?_
 refine xAAAEA (S.objs i _ l hH hl) λg ne z80 _ z81 _=>?_;obtain⟨o,h1,h2,h3,h4⟩:=z80;obtain⟨oD,esD,epD,hoD,hdD,_⟩:=z81
 have hbase:C.base.heap.get? l.a=none:=by
  rcases S.ro i l hl with ⟨vs,e⟩ |e
  ·rw[hH]at e;cases e
  ·exact e.1
 have hxC:l.a≠dJ:=by intro e;rw[e,hC]at hbase;cases hbase
 obtain⟨hh,gg,d,t,os⟩:=s
 refine store_attrFk PySem.F.store_object (S.keep _ _ hC) (jG hn S.keep) hsa (hna x hx) (rG x hx) hxC I (λh' tk' I' hk hsame=>?_) Wi (by rw[sizeLine_eq];decide)
 have kk:∀ b ob,¬l.has b->hh.get? b=some ob->h'.get? b=some ob:=λb ob hb e=>hk b ob (λz=>hb (.inl z)) (λo₀ d' e₀ ed=>by
  obtain rfl:=Option.some.inj (h1.symm.trans e₀);obtain rfl:=Option.some.inj (h4.symm.trans ed);exact λz=>hb (.inr z)) e
 have im:Imm hh h':=λb ob e i=>kk b ob (λz=>by
  rcases z with rfl |rfl
  ·rw[h1]at e;cases e;simp [aV,h3]at i
  ·rw[hoD]at e;cases e;simp [aV,hdD]at i) e
 refine w9 (hsame o h1) λo₁ e₁ c₁ dt₁ _ dk₁=>?_
 refine xEAAA I' λo' e' c' _ hd'=>?_
 obtain rfl:=Option.some.inj (e₁.symm.trans e')
 have hd1:=dk₁ l.d h4
 rcases hd' with ⟨hn0,_⟩ |⟨d',hd',ne',hns',hex'⟩
 ·rw[hd1]at hn0;cases hn0
 obtain rfl:=Option.some.inj (hd1.symm.trans hd')
 have al:∀ b ob,hh.get? b=some ob->∃ ob',h'.get? b=some ob':=λb ob e=>by
  by_cases z:l.has b
  ·rcases z with rfl |rfl
   ·exact⟨_,e₁⟩
   ·refine gS hns' λo2 _ _ e2 _=>?_;exact⟨o2,e2⟩
  ·exact⟨ob,kk b ob z e⟩
 refine⟨S.upd (s':=⟨h',gg,d,tk',os⟩) hl hH (by intro _ h;cases h) (λb ob e hb=>kk b ob hb e) im rfl rfl ⟨g,ne,⟨o₁,e₁,c₁.trans h2,dt₁.trans h3,hd1⟩,_,hns',hex',?_,λy=>?_⟩ (by intro _ h;cases h),
  ⟨prefix_refl _,λl hl=>by simp at hl,λb ob e ho _=>kk b ob (λz=>ho ⟨l,mem_of_getElem? hl,z⟩) e,im,al⟩⟩
 ·intro y hy
  by_cases z:y=x
  ·subst z;exact hx
  ·exact Wi y (by simpa [z] using hy)
 ·unfold fput
  by_cases z:y=x
  ·simp only[z,if_true];exact rv.mono (prefix_refl _) im
  ·simp only[z,if_false];exact(hm y).mono (prefix_refl _) im
def d6(x:Str)(f:EF):AF:=λv lo H Q=>f lo H λa H1=>Lf a.rf λi=>Lf (H1[i]?.bind MO.ins) λfs=>Q lo (H1.set i (.inst (fput fs x v)))
theorem AV.attr{e:Expr}{x:Str}{pos:Pos}{f:EF}(K:SMC C)(hx:x∈cS)(h:EV C r env e f):AV C r env (.Attribute e x pos) (d6 x f):=by
 intro A s ρ H lo u v Q hr S F rv q
 rw[assign_Attribute]
 exact zzB (wpAny_holding (h.run hr S F q λS1 N1 r1 q=>q.elim λi hi q=>q.elim λfs hf q=>by
  refine cX (r1.toRef hi) λl _ z82 g=>?_;subst z82
  refine zzB (wpAny_standAt (zzB (wpAny_holding (wmN (oM (W:=noW) K hx S1 g (aAl hf) (rv.nx N1)) λ_ s2 p=>?_))))
  exact wpAny_release ⟨p.1,(N1.trans p.2).wr,F.nx (N1.trans p.2),q⟩))
def eF(g:CF)(f:EF)(fs:EFs):EF:=λlo H Q=>f lo H λa H1=>Lf a.rf λi=>(∃ ff,H1[i]? =some (.inst ff))/\fs lo H1 λvs H2=>g (.ref i::vs) H2 Q
theorem wO:∀ p∈eA,p.1∉cS:=by decide+kernel
theorem EV.meth{o:Expr}{name:Str}{fa:Addr}{apos pos:Pos}{f:EF}{g:CF}{es:List Expr}{fs:EFs}(K:SMC C)(hp:(name,fa)∈eA)(hf:CV C r (.ref fa) g)(ho:EV C r env o f)(ha:EVs C r env es fs)(hfl:k9 env es)(sh:eX env o name apos pos es):EV C r env (.Call (.Attribute o name apos) es [] pos) (eF g f fs):=λ_ _ _ _ _ _ hr S F q=>eD (P:=λ_ _=>True) sh.base sh.few sh.line (ho.run hr S F q λ{x s1 ρ1 v1 H1} S1 N1 r1 q pl=>q.elim λi hi q=>by
  refine cX (r1.toRef hi) λl _ hl g'=>?_
  subst hl
  refine xA q λz83 q=>?_;obtain⟨ff,hH⟩:=z83
  refine cX (pN S1 g' hH) λm I W hm=>?_
  refine fD K.cls λnm q' bs sn sub col dd k0 k1 k2 k3 k5 hC=>?_
  refine oE K.ns λmN hn hna hng hga hsa hme=>?_
  refine xEA (K.fn _ hp) λof hof hfc=>?_
  refine xE (yV _ hp) λy hy=>?_
  have hsh:m name=Option.none:=by
   cases e:m name with
   |none=>rfl
   |some z=>exact absurd (W name (by rw[e];intro q;cases q)) (wO _ hp)
  have key:=wmN (E:=NoE) (kW (pos:=pos) hf ha hfl hr S1 (F.nx N1) (.cons (VR.ref g') .nil) q) λ_ _ p=>p.from N1
  obtain⟨hh,gg,d,t,os⟩:=s1
  exact method_ofFk (S1.keep _ _ hC) (jG hn S1.keep) hng hga (hme _ hp) (S1.keep _ _ hof) hfc hy I hsh key)
end
section
variable {C:Cx}{r:Nat}{env:Env}
theorem Sim.iterX{H:MH}{ρ:List Lc}{s:Shared}{h':Heap}{k:Nat}{X:Addr->Prop}(S:Sim C H ρ s)(hk:∀ b o,¬X b->s.heap.get? b=some o->h'.get? b=some o)(hi:∀ a o,X a->s.heap.get? a=some o->¬aV o)(hX:∀ b,X b->¬Own ρ b/\C.base.heap.get? b=none):Sim C H ρ {s with heap:=h',toks:=k}/\NxI ρ X s ρ {s with heap:=h',toks:=k}:=by
 have im:Imm s.heap h':=λb o e i=>Classical.byCases (λq:X b=>absurd i (hi b o q e)) λq=>hk b o q e
 refine⟨S.same (λb o e q=>hk b o (λz=>?_) e) im (λ_ _ e=>e) rfl S.bare,⟨prefix_refl _,λl hl=>by simp at hl,λb o e _ q=>hk b o q e,im,λb o e q=>⟨o,hk b o q e⟩⟩⟩
 refine Or.elim q (λq=>?_) λq=>?_
 ·exact(hX b z).1 q
 ·rw[(hX b z).2]at q;cases q
inductive EnR(ρ:List Lc)(h:Heap)(it:Nat×Nat):Value->(Addr->Prop)->Prop
 |mk {e t l old} (h1:ρ[it.1]? =some l) (h2:e≠t) (h3:IsEnum h e t it.2 old) (h4:h.IsListIter t l.a it.2):EnR ρ h it (.ref e) (λb=>b=e\/b=t)
inductive EnM(ρ:List Lc)(h:Heap)(it:Nat×Nat):Value->Value->(Addr->Prop)->Prop
 |mk {e t l item a} (h1:ρ[it.1]? =some l) (h2:e≠t) (h3:IsEnumOut h e t it.2 item a) (h4:h.IsListIter t l.a it.2):EnM ρ h it (.ref a) (.ref e) (λb=>b=e\/b=t)
theorem aBq{h:Heap}{e t:Addr}{o1 o2:Obj}(h1:h.get? e=some o1)(h2:h.get? t=some o2)(i1: ¬aV o1)(i2: ¬aV o2):∀ b o,(b=e\/b=t)->h.get? b=some o->¬aV o:=λb o q e'=>by
 rcases q with rfl |rfl
 ·rw[h1]at e';cases e';exact i1
 ·rw[h2]at e';cases e';exact i2
theorem pG{o:Obj}{x y:Value}(h4:o.cls= .type "list_iterator")(h5:o.data= .fields #[x,y]): ¬aV o:=by unfold aV;rw[h5];simp [h4]
def l8(C:Cx):ItK C where
 σ:=Nat×Nat
 nx:=λit H Q=>Lf (lst H (.ref it.1)) λvs=>Q ((vs[it.2]?).map λv=>(.tup [.int it.2,v],(it.1,it.2+1))) H
 rel:=λρ s it x X=>EnR ρ s.heap it x X
 mid:=λρ s it u x X=>EnM ρ s.heap it u x X
 tg:=λt=>∃ elts k pos,t= .Tuple elts k pos
 need:=0
 mono:=λR p i hk=>by
  cases R with
  |mk h1 h2 h3 h4=>refine xEA h4 λo h4 h5=>?_;exact .mk (aO p h1) h2 (hk _ _ (.inl rfl) h3) ⟨o,hk _ _ (.inr rfl) h4,h5⟩
 alive:=λR b hb=>by
  cases R with
  |mk h1 h2 h3 h4=>
   refine xEA h4 λo h4 h5=>?_
   rcases hb with rfl |rfl
   ·exact⟨_,h3⟩
   ·exact⟨_,h4⟩
 next:=λ{A s ρ H it x X Q r} _ hr S R hX q=>by
  refine q.elim λvs hl q=>?_
  cases R with
  |mk h1 h2 h3 hit=>
  refine bL (b5 S (.ref h1) hl) λad xs q1 q2 q3=>?_
  cases q1
  have hi:∀ b o,_->s.heap.get? b=some o->¬aV o:=let ⟨o,h4,h5,h6⟩:=hit;aBq h3 h4 (by simp [aV]) (pG h5 h6)
  cases hv:vs[it.2]? with
  |some v=>
   rw[hv]at q
   refine xEA (q3.get hv) λu hu ru=>?_
   refine wpAny_pyNext_enum_item h3 hit q2 (by simpa using hu) h2 λh' a1 a2 a3 a4 a5=>?_
   have st:=S.iterX (h':=h') (k:=s.toks+1) (λb o hb e'=>a5 b o (λz=>hb (.inl z)) (λz=>hb (.inr z)) e') hi hX
   exact .item (it':=(it.1,it.2+1)) st.1 st.2 (.tup a3 (.cons (.int _ _) (.cons (ru.mono (prefix_refl _) st.2.imm) .nil))) (.mk h1 h2 a1 a2) q
  |none=>
   rw[hv]at q
   refine wpAny_pyNext_enum_end hr.1 h3 hit q2 (Array.getElem?_eq_none (by rw[q3.sz];exact getElem?_eq_none_iff.mp hv)) λh' he=>?_
   have st:=S.iterX (h':=h') (k:=s.toks) (λb o hb e'=>he b o (λz=>hb (.inr z)) e') hi hX
   exact .done st.1 st.2 q
 lgo:=λ{A s ρ H it x X u target r} hr S M tg hX=>by
  refine sM tg λelts k pos z68=>?_;clear tg;subst z68
  cases M with
  |mk h1 h2 h3 hit=>
  have hi:∀ b o,_->s.heap.get? b=some o->¬aV o:=let ⟨o,h4,h5,h6⟩:=hit;aBq h3 h4 (by simp [aV]) (pG h5 h6)
  refine wpAny_letOwnedTupleGo_enum h3 λh' a1 hs=>?_
  have st:=S.iterX (h':=h') (k:=s.toks) (λb o hb e'=>(hs.2 b (λz=>hb (.inl z))).trans e') hi hX
  refine xEA hit λo h4 h5=>?_
  exact⟨st.1,st.2,.mk h1 h2 a1 ⟨o,(hs.2 _ (Ne.symm h2)).trans h4,h5⟩⟩
theorem IV.enum{e:Expr}{np pos:Pos}{f:EF}(h:EV C r env e f)(hg:Glo C "enumerate" (.type "enumerate"))(hk:env.kindOf "enumerate" =some .globalImplicit)(hfl:k9 env [e])(he:starEach [e] env=(false,eval e env)::starEach [] env):IV (l8 C) r env (.Call (.Name "enumerate" np) [e] [] pos) (iL f):=λA s ρ H lo Q hr S F q=>wpAny_Call_ofName (j5 hg hk (by decide) S F (callWith_of (P:=λh=>∀ b o,C.base.heap.get? b=some o->h.get? b=some o) (by rw[hfl.2];rfl) d7
  (wmN (jS (Q:=λvs H1=>Lf (one vs) λv=>Lf v.rf λi=>(∃ vs,lst H1 (.ref i)=some vs)/\Q (i,0) H1) (EVs.cons h EVs.nil he) hfl hr S F q) λa s1 p=>by
  obtain⟨ps,kw⟩:=a
  obtain⟨hkw,S1,N1,rs,q⟩:=p
  cases hkw
  refine⟨S1.keep,q.elim λv hv q=>q.elim λi hi q=>?_⟩
  refine xEA (f9 rs hv) λu hu r1=>?_
  cases hu
  refine cX (r1.toRef hi) λl z69 z70 g=>?_;subst z69;subst z70
  refine xA q λz71 q=>?_;obtain⟨vs,hl⟩:=z71
  refine bL (b5 S1 r1 hl) λad xs e q2 q3=>?_
  cases e
  refine call_enumerate_list q2 λh' g1 g2 g3 g4=>wpAny_pyIter_enum g1 ?_
  have fr1:s1.heap.get? (s1.heap.objs.size+1)=none:=by
   cases e':s1.heap.get? (s1.heap.objs.size+1) with
   |none=>rfl
   |some o=>exact absurd (Heap.lt_size e') (Nat.not_lt.mpr (le_succ _))
  exact⟨S1.ext g4,N1.trans (.ext g4),.mk g (succ_ne_self _) g1 g2,λb hb=>by
   rcases hb with rfl |rfl
   ·exact cP N1 S1 fr1
   ·exact cP N1 S1 (bD _),q⟩)))
def MO.dct:MO->Option (Nat×(Int->Option V)) | .dict n f=>some (n,f) |_=>none
theorem tR{m:Option MO}{p:Nat×(Int->Option V)}(e:m.bind MO.dct=some p):m=some (.dict p.1 p.2):=by
 refine xEA (bind_eq_some_iff.mp e) λm z72 h2=>?_;subst z72
 cases m with
 |dict n f=>cases h2;rfl
 |_=>cases h2
theorem oU{H:MH}{ρ:List Lc}{s:Shared}{i:Nat}{l:Lc}{n:Nat}{f:Int->Option V}(S:Sim C H ρ s)(hl:ρ[i]? =some l)(hH:H[i]? =some (.dict n f))(hb:∃ o,C.base.heap.get? sysModules=some o):(l.a==sysModules)=false:=by
 rcases S.ro i l hl with ⟨vs,e⟩ |e
 ·rw[hH]at e;cases e
 ·rw[beq_eq_false_iff_ne]
  intro q
  refine xE hb λo ho=>?_
  rw[q,ho]at e
  cases e.1
structure DctAt(C:Cx)(H:MH)(ρ:List Lc)(s:Shared)(i:Nat)(l:Lc)(n:Nat)(f:Int->Option V)(kvs:List (Int×Value)):Prop where
 g:ρ[i]? =some l
 d:l.d=l.a
 gn:l.g=none
 h:H[i]? =some (.dict n f)
 x:s.heap.DictOf (intKind C.prog C.w) l.a kvs
 le:kvs.length<=n
 f:∀ k,OV ρ s.heap (valueAt kvs k) (f k)
theorem qM{H:MH}{ρ:List Lc}{s:Shared}(S:Sim C H ρ s){i:Nat}{l:Lc}{n:Nat}{f:Int->Option V}(g:ρ[i]? =some l)(h:H[i]? =some (.dict n f)):∃ kvs,DctAt C H ρ s i l n f kvs:=let ⟨h1,h2,kvs,hx,hle,hf⟩:=S.objs i _ l h g;⟨kvs,g,h1,h2,h,hx,hle,hf⟩
theorem nR{o:Expr}{f:EF}{name:Str}{id:String}{apos pos:Pos}{args:List Expr}{A:Around}{K:Value->Shared->Prop}{s:Shared}{ρ:List Lc}{H:MH}{lo:Lo}{Q:EK}(ho:EV C r env o f) (sh:eX env o name apos pos args) (slot:Slot "dict" name id) (hty:typeOf (.builtin id)=pure (.type "method_descriptor")) (hr:Room r A) (S:Sim C H ρ s) (F:Fm C env ρ s lo) (e:f lo H Q)(hQ:∀ v H1,Q v H1->∃ i n g,v.rf=some i/\H1[i]? =some (.dict n g))(h:∀ {s1 ρ1 l i n g H1},Sim C H1 ρ1 s1->Nx ρ noW s ρ1 s1->ρ1[i]? =some l->H1[i]? =some (.dict n g)->Q (.ref i) H1->wpAny C.M A (callWith pos (.builtin id) [.ref l.a] (backTo pos (starEach args env)) []) K NoE s1):wpAny C.M A (eval (.Call (.Attribute o name apos) args [] pos) env) K NoE s:=eD (P:=λ_ _=>True) sh.base sh.few sh.line (ho.run hr S F e λS1 N1 r1 q pl=>by
  refine gS (hQ _ _ q) λi n gg hi hv=>?_
  refine cX (r1.toRef hi) λl hv' z73 g=>?_;subst z73
  subst hv'
  refine xE (qM S1 g hv) λkvs D=>?_
  have hx:=D.x
  refine fF hx λob es ep hob z74 _=>?_;obtain⟨hc1,hc2,hc3⟩:=z74
  exact getMethod_builtin ⟨_,hob,hc1⟩ PySem.F.plainAttrs_dict slot hty (λa e=>by cases e;exact⟨_,hob,hc2⟩) (h S1 N1 g hv q))
def eD2(f f1 f2:EF)(k:Nat->Nat->(Int->Option V)->Int->V->MH->EK->Prop):EF:=λlo H Q=>f lo H λa H1=>Lf a.rf λi=>(∃ n g,H1[i]? =some (.dict n g))/\f1 lo H1 λb H2=>Lf (Ti b) λx=>f2 lo H2 λv H3=>Lf (H3[i]?.bind MO.dct) λp=>k i p.1 p.2 x v H3 Q
def vJ(f f1 f2:EF):EF:=eD2 f f1 f2 λi n g x v H3 Q=>n<1000000/\match g x with |some v'=>Q v' H3 |none=>Q v (H3.set i (.dict (n+1) (dput g x v)))
theorem OV.same{ρ:List Lc}{h:Heap}{u:Option Value}{w:Option V}(o:OV ρ h u w):(u=none/\w=none)\/∃ x v,u=some x/\w=some v/\VR ρ h x v:=by
 cases u<;>cases w
 ·exact .inl ⟨rfl,rfl⟩
 ·exact False.elim o
 ·exact False.elim o
 ·exact .inr ⟨_,_,rfl,rfl,o⟩
theorem EV.setdefault{o e1 e2:Expr}{f f1 f2:EF}{apos pos:Pos}(hb:∃ o,C.base.heap.get? sysModules=some o)(ho:EV C r env o f)(h1:EV C r env e1 f1)(h2:EV C r env e2 f2)(sh:eX env o "setdefault" apos pos [e1,e2])(ht:backTo pos (starEach [e1,e2] env)= [(false,eval e1 env),(false,eval e2 env)]):EV C r env (.Call (.Attribute o "setdefault" apos) [e1,e2] [] pos) (vJ f f1 f2):=λ_ _ _ _ _ _ hr S F q=>nR ho sh PySem.F.slot_dict_setdefault PySem.F.type_dict_setdefault hr S F q (λv H1 q=>q.elim λi hi q=>let ⟨n,g,h⟩:=q.1;⟨i,n,g,hi,h⟩) λ{s1 ρ1 l i n g H1} S1 N1 hl hw q=>by
  rw[ht]
  refine method2_meetsIn PySem.F.slot_dict_setdefault PySem.F.entry_dict_setdefault (h1.run hr S1 (F.nx N1) q.2 λ{x s2 ρ2 v2 H2} S2 N2 r2 q=>q.elim λk hk q=>h2.run hr S2 ((F.nx N1).nx N2) q λ{b s3 ρ3 v3 H3} S3 N3 r3 q=>q.elim λp hp q=>?_)
  refine xE (qM S3 (aO (N2.trans N3).pre hl) (tR hp)) λkvs D=>?_
  have N:=N1.trans (N2.trans N3)
  refine xE (r2.tiE hk) λt z75=>?_;subst z75
  refine xA q λhn q=>?_
  refine⟨D.x.mapOf.typeIs,PySem.F.args_dict_setdefault_3 _ _ _,_,kt_meets_setdefault (intKind C.prog C.w) (k:=k) l.a (intKind_is _ _ _ _) (oU S3 D.g D.h hb) b,kvs,D.x,by have:=D.le;rw[sizeLine_eq];exact A29 hn this,λu hu=>?_,λhu h' hx' hs=>?_⟩
  ·rcases(D.f k).same with ⟨e,_⟩ |⟨x',v',e,e',rv⟩
   ·rw[hu]at e;cases e
   ·rw[hu]at e;cases e;rw[e']at q;exact bK.from N (.tok S3 rv q)
  ·rcases(D.f k).same with ⟨_,e'⟩ |⟨x',v',e,_⟩
   ·rw[e']at q
    have st:=S3.setD (tk:=s3.toks+1) (k:=k) D.g D.h D.d D.gn D.x D.le D.f r3 hx' hs
    exact bK.from N ⟨st.1,st.2 _,r3.nx (st.2 noW),q⟩
   ·rw[hu]at e;cases e
def eGet(f f1 f2:EF):EF:=eD2 f f1 f2 λi n g x v H3 Q=>Q ((g x).getD v) H3
theorem EV.get{o e1 e2:Expr}{f f1 f2:EF}{apos pos:Pos}(hb:∃ o,C.base.heap.get? sysModules=some o)(ho:EV C r env o f)(h1:EV C r env e1 f1)(h2:EV C r env e2 f2)(sh:eX env o "get" apos pos [e1,e2])(ht:backTo pos (starEach [e1,e2] env)= [(false,eval e1 env),(false,eval e2 env)]):EV C r env (.Call (.Attribute o "get" apos) [e1,e2] [] pos) (eGet f f1 f2):=λ_ _ _ _ _ _ hr S F q=>nR ho sh PySem.F.slot_dict_get PySem.F.type_dict_get hr S F q (λv H1 q=>q.elim λi hi q=>let ⟨n,g,h⟩:=q.1;⟨i,n,g,hi,h⟩) λ{s1 ρ1 l i n g H1} S1 N1 hl hw q=>by
  rw[ht]
  refine wpAny_dict_get2 (knd:=intKind C.prog C.w) (oU S1 hl hw hb) (h1.run hr S1 (F.nx N1) q.2 λ{x s2 ρ2 v2 H2} S2 N2 r2 q=>q.elim λk hk q=>h2.run hr S2 ((F.nx N1).nx N2) q λ{b s3 ρ3 v3 H3} S3 N3 r3 q=>q.elim λp hp q=>?_)
  refine xE (qM S3 (aO (N2.trans N3).pre hl) (tR hp)) λkvs D=>?_
  have N:=N1.trans (N2.trans N3)
  refine xE (r2.tiE hk) λt z76=>?_;subst z76
  dsimp only at q
  refine⟨k,_,intKind_is _ _ _ _,D.x.mapOf,?_⟩
  rcases(D.f k).same with ⟨e,e'⟩ |⟨x',v',e,e',rv⟩
  ·rw[e];rw[e']at q;exact bK.from N (.tok S3 r3 q)
  ·rw[e];rw[e']at q;exact bK.from N (.tok S3 rv q)
end
section
theorem uS:Slot "method_descriptor" "__get__" "method_descriptor.__get__" :=.of (owner:="method_descriptor") (n:="__get__") (by rw[typeLookup_type,builtinLookup_eq_fast];kernel_rfl) (by decide+kernel) (by decide+kernel) (by decide+kernel)
  (by first |exact .inl (by decide+kernel) |exact .inr (by decide+kernel)) (by rw[isSubtype_type];kernel_rfl)
theorem zG:entryFor table "method_descriptor.__get__" =some Builtin.«method_descriptor.__get__»:=entryFor_of_tree ⋯
theorem aDs(a b c:Value):argsOk "method_descriptor.__get__" ⟨[a,b,c],[]⟩:=by unfold argsOk;kernel_rfl
theorem xW:isSubtype (.type "dict") (.type "dict")=pure true:=by rw[isSubtype_type];kernel_rfl
theorem aC3:isSubtype (.type "set") (.type "set")=pure true:=by rw[isSubtype_type];kernel_rfl
theorem aDe:(kfb_private% "ownerAndName") "dict.get" =("dict","get"):=by first |decide+kernel |kernel_rfl
theorem aDf:(kfb_private% "ownerAndName") "set.__contains__" =("set","__contains__"):=by first |decide+kernel |kernel_rfl
theorem yK{M:Model}{A:Around}{E:Value->Shared->Prop}{s:Shared}{a:Addr}{T id nm:String}{P:Fin->Shared->Prop}(h1:Manifest.toldItsClass.contains id=false)(ho:(kfb_private% "ownerAndName") id=(T,nm))(hsub:isSubtype (.type T) (.type T)=pure true)(hT:s.TypeIs (.ref a) T)(h:P (.done (.ret (.ref s.heap.objs.size))) {s with heap:=s.heap.push {cls:=.type "builtin_function_or_method",data:=.fields #[.builtin id,.ref a]}}):
  wpAny M A (Builtin.«method_descriptor.__get__» ⟨[.builtin id,.ref a,.type T],[]⟩) P E s:=by
 unfold Builtin.«method_descriptor.__get__»
 refine zzB (wpAny_of_eq (a:=(.builtin id,some (.ref a),some (.type T))) (by first |rfl |kernel_rfl) ?_)
 simp only[h1,false_eq_true,if_false]
 refine zzB (m:=(kfb_private% "checkInstance") (.builtin id) (.ref a)) ?_
 refine zzB (m:=(kfb_private% "nameAndClass") (.builtin id)) ?_
 refine wpAny_of_eq (a:=((nm:Str),.type T)) (by show(match (kfb_private% "ownerAndName") id with | (owner,name)=>pure ((name:Str),Value.type owner))=_;rw[ho]) ?_
 refine zzB (wpAny_isInstance hT hsub ?_)
 refine zzP ?_
 exact zzB (wpAny_newObj_type (zzP h))
theorem zF:typeLookup (.type "method_descriptor") "__get__" =pure (some (.builtin "method_descriptor.__get__")):=by rw[typeLookup_type,builtinLookup_eq_fast];kernel_rfl
theorem zE:typeLookup (.type "method_descriptor") "__set__" =pure none:=by rw[typeLookup_type,builtinLookup_eq_fast];kernel_rfl
theorem zH:typeLookup (.type "method_descriptor") "__delete__" =pure none:=by rw[typeLookup_type,builtinLookup_eq_fast];kernel_rfl
theorem uT{prog:Program}{w:World}{A:Around}{s:Shared}{a:Addr}{T id nm:String}{R:Result->Shared->Prop}(h1:Manifest.toldItsClass.contains id=false)(ho:(kfb_private% "ownerAndName") id=(T,nm))(hsub:isSubtype (.type T) (.type T)=pure true)(hty:typeOf (.builtin id)=pure (.type "method_descriptor")) (hT:s.TypeIs (.ref a) T) (h:R (.ok (.ret (.ref s.heap.objs.size))) {s with heap:=s.heap.push {cls:=.type "builtin_function_or_method",data:=.fields #[.builtin id,.ref a]}}):
  codeAny (model prog w) A (.call (.builtin "method_descriptor.__get__") ⟨[.builtin id,.ref a,.type T],[]⟩) R s:=by
 refine codeAny_call_builtin uS.plain zG (uS.check _ _ _ _ _ _ _ _ hty (aDs _ _ _) (yK h1 ho hsub hT ?_))
 exact h
theorem iU:entryFor table "dict.__getattribute__" =some Builtin.«object.__getattribute__»:=entryFor_alias (id':="object.__getattribute__") ⋯ (by decide+kernel) (by decide+kernel) ⋯
theorem lk_get:typeLookup (.type "dict") "get" =pure (some (.builtin "dict.get")):=by rw[typeLookup_type,builtinLookup_eq_fast];kernel_rfl
set_option maxHeartbeats 1000000 in
theorem iO(a:Addr)(es:Array DictEntry)(k:Nat)(u:Tok):Meets (Builtin.«object.__getattribute__» ⟨[.ref a,.str "get" u],[]⟩) (λA R s=>s.heap.get? a=some {cls:=.type "dict",dict:=none,data:=.dict es k,slots:= #[]}/\R (.ok (.ret (.ref s.heap.objs.size))) {s with heap:=s.heap.push {cls:=.type "builtin_function_or_method",data:=.fields #[.builtin "dict.get",.ref a]}}):=Meets.of_wp λprog w A R s hs=>by
  obtain⟨hp,g,d,tk,os⟩:=s
  obtain⟨hx,hs⟩:=hs
  have hT:(⟨hp,g,d,tk,os⟩:Shared).TypeIs (.ref a) "dict" :=⟨_,hx,rfl⟩
  have f1:=lk_get
  have f2:=PySem.F.type_dict_get
  have f3:=zF
  have f4:=zE
  have f5:=zH
  unfold Builtin.«object.__getattribute__»
  repeat (any_goals (first |assumption |wp_step))
  refine uT (by decide+kernel) aDe xW f2 hT ?_
  exact zzP ⟨_,rfl,hs⟩
set_option maxHeartbeats 1000000 in
theorem j6{prog:Program}{w:World}{A:Around}{E:Value->Shared->Prop}{s:Shared}{a:Addr}{es:Array DictEntry}{k:Nat}{b:Bool}{Q:Value->Shared->Prop}(hx:s.heap.get? a=some {cls:=.type "dict",dict:=none,data:=.dict es k,slots:= #[]})
  (h:Q (.ref s.heap.objs.size) {s with heap:=s.heap.push {cls:=.type "builtin_function_or_method",data:=.fields #[.builtin "dict.get",.ref a]},toks:=s.toks+1}):
  wpAny (model prog w) A (getAttr (.ref a) "get" b) Q E s:=by
 obtain⟨hp,g,d,tk,os⟩:=s
 have hT:∀ tk',(⟨hp,g,d,tk',os⟩:Shared).TypeIs (.ref a) "dict" :=λ_=>⟨_,hx,rfl⟩
 have f3:=F.slot_dict_getattribute.lookup
 have f4:=F.slot_dict_getattribute.bind (.ref a)
 unfold getAttr getAttrBy
 repeat (any_goals (first |assumption |exact hT _ | ((with_reducible show wpAny _ _ (call (Value.builtin "dict.__getattribute__") _ _) _ _ _);refine call_meets F.slot_dict_getattribute (hT _) iU (F.args_dict_getattribute_2 _ _) (iO a es k _) ⟨hx,?_⟩) |wp_step))
 have hb:(b && onTheHeap (Value.builtin "dict.__getattribute__"))=false:=by cases b<;>rfl
 simp only[hb,false_eq_true,if_false]
 unfold boundAndCalled
 repeat (any_goals (first |assumption |exact hT _ | ((with_reducible show wpAny _ _ (call (Value.builtin "dict.__getattribute__") _ _) _ _ _);refine call_meets F.slot_dict_getattribute (hT _) iU (F.args_dict_getattribute_2 _ _) (iO a es k _) ⟨hx,?_⟩) |wp_step))
 exact zzP h
theorem jP:entryFor table "set.__getattribute__" =some Builtin.«object.__getattribute__»:=entryFor_alias (id':="object.__getattribute__") ⋯ (by decide+kernel) (by decide+kernel) ⋯
theorem lk_con:typeLookup (.type "set") "__contains__" =pure (some (.builtin "set.__contains__")):=by rw[typeLookup_type,builtinLookup_eq_fast];kernel_rfl
set_option maxHeartbeats 1000000 in
theorem jJ(a:Addr)(k:Nat)(st:SetTable)(u:Tok):Meets (Builtin.«object.__getattribute__» ⟨[.ref a,.str "__contains__" u],[]⟩) (λA R s=>s.heap.get? a=some {cls:=.type "set",dict:=none,data:=.set #[] k st,slots:= #[]}/\R (.ok (.ret (.ref s.heap.objs.size))) {s with heap:=s.heap.push {cls:=.type "builtin_function_or_method",data:=.fields #[.builtin "set.__contains__",.ref a]}}):=Meets.of_wp λprog w A R s hs=>by
  obtain⟨hp,g,d,tk,os⟩:=s
  obtain⟨hx,hs⟩:=hs
  have hT:(⟨hp,g,d,tk,os⟩:Shared).TypeIs (.ref a) "set" :=⟨_,hx,rfl⟩
  have f1:=lk_con
  have f2:=PySem.F.type_set_contains
  have f3:=zF
  have f4:=zE
  have f5:=zH
  unfold Builtin.«object.__getattribute__»
  repeat (any_goals (first |assumption |wp_step))
  refine uT (by decide+kernel) aDf aC3 f2 hT ?_
  exact zzP ⟨_,rfl,hs⟩
set_option maxHeartbeats 1000000 in
theorem lC{prog:Program}{w:World}{A:Around}{E:Value->Shared->Prop}{s:Shared}{a:Addr}{k:Nat}{st:SetTable}{b:Bool}{Q:Value->Shared->Prop}(hx:s.heap.get? a=some {cls:=.type "set",dict:=none,data:=.set #[] k st,slots:= #[]})
  (h:Q (.ref s.heap.objs.size) {s with heap:=s.heap.push {cls:=.type "builtin_function_or_method",data:=.fields #[.builtin "set.__contains__",.ref a]},toks:=s.toks+1}):
  wpAny (model prog w) A (getAttr (.ref a) "__contains__" b) Q E s:=by
 obtain⟨hp,g,d,tk,os⟩:=s
 have hT:∀ tk',(⟨hp,g,d,tk',os⟩:Shared).TypeIs (.ref a) "set" :=λ_=>⟨_,hx,rfl⟩
 have f3:=F.slot_set_getattribute.lookup
 have f4:=F.slot_set_getattribute.bind (.ref a)
 unfold getAttr getAttrBy
 repeat (any_goals (first |assumption |exact hT _ | ((with_reducible show wpAny _ _ (call (Value.builtin "set.__getattribute__") _ _) _ _ _);refine call_meets F.slot_set_getattribute (hT _) jP (F.args_set_getattribute_2 _ _) (jJ a k st _) ⟨hx,?_⟩) |wp_step))
 have hb:(b && onTheHeap (Value.builtin "set.__getattribute__"))=false:=by cases b<;>rfl
 simp only[hb,false_eq_true,if_false]
 unfold boundAndCalled
 repeat (any_goals (first |assumption |exact hT _ | ((with_reducible show wpAny _ _ (call (Value.builtin "set.__getattribute__") _ _) _ _ _);refine call_meets F.slot_set_getattribute (hT _) jP (F.args_set_getattribute_2 _ _) (jJ a k st _) ⟨hx,?_⟩) |wp_step))
 exact zzP h
end
section
variable {C:Cx}{r:Nat}{env:Env}
noncomputable abbrev w5(id:String)(self:Value):Obj:= {cls:=.type "builtin_function_or_method",data:=.fields #[.builtin id,self]}
theorem tF{h:Heap}{x:Addr}{id:String}{self:Value}(ho:h.get? x=some (w5 id self)):∃ k,(k=Keeper.frame\/k=Keeper.machine\/k=Keeper.boundFrame)/\Looks C.M h (keeperOf (.ref x)) k:=by
 refine⟨.machine,.inr (.inl rfl),(Looks.ld (part:=none) ho).andThen ?_⟩
 exact .now
theorem oV:isSubtype (.type "dict") (.type "module")=pure false:=by rw[isSubtype_type];kernel_rfl
theorem rI:isSubtype (.type "set") (.type "module")=pure false:=by rw[isSubtype_type];kernel_rfl
def okB(id full:String)(args:Args):Prop:=(match Manifest.signature? id with |some sig=>Bind.checkArgs id {sig with full:=full} args |none=>(pure ():Sem Unit))=pure ()
theorem aC6(a b c:Value):okB "dict.get" "dict.get" ⟨[a,b,c],[]⟩:=by
 unfold okB;rw[signature?_of (id:="dict.get") (n:=['t','e','g']) (o:=['t','c','i','d']) ⋯ PySem.F.owner_dict];kernel_rfl
theorem aC7(a b:Value):okB "set.__contains__" "set.__contains__" ⟨[a,b],[]⟩:=by
 unfold okB;rw[signature?_of (id:="set.__contains__") (n:=['_','_','s','n','i','a','t','n','o','c','_','_']) (o:=['t','e','s']) ⋯ PySem.F.owner_set];kernel_rfl
theorem kV{M:Model}{A:Around}{E:Value->Shared->Prop}{s:Shared}{d:Addr}{rest:List Value}{T id nm:String}{Q:Unit->Shared->Prop}(hk:builtinKind id=some .method)(hn:Bind.lastOf id=nm)(hv:Manifest.varargsMethods.contains id=false)(hm:isSubtype (.type T) (.type "module")=pure false){o:Obj} (ho:s.heap.get? d=some o) (hc:o.cls= .type T) (hnc:∀ c,o.data≠ .cls c){full:String} (hfull:s!"{Bind.lastOf T}.{nm}" =full) (hok:okB id full ⟨.ref d::rest,[]⟩) (h:Q () s):wpAny M A (checkBoundCall id ⟨.ref d::rest,[]⟩) Q E s:=by
 have hT:s.TypeIs (.ref d) T:=⟨o,ho,hc⟩
 unfold checkBoundCall
 rw[<-hfull]at hok
 unfold okB at hok
 cases hs:Manifest.signature? id with
 |none=>exact zzP h
 |some sig=>
  rw[hs]at hok
  rw[hk]
  dsimp only
  rw[if_neg (by decide),hn]
  refine zzB (wpAny_isInstance hT hm ?_)
  rw[hv,if_neg (by decide)]
  refine zzB (m:=isType (.ref d)) ?_
  show wpAny M A (loadHead d >>=λob=>pure (match ob.data with | .cls _=>true |_=>false)) _ _ s
  refine zzB (m:=loadPart d (some headPart)) (wpAny_loadPart ho ?_)
  have e:(match o.data with | .cls _=>true |_=>false)=false:=by
   cases q:o.data<;>first |rfl |exact absurd q (hnc _)
  rw[e]
  refine zzP ?_
  rw[if_neg (by decide)]
  refine zzB (wpAny_typeOf hT ?_)
  exact wpAny_of_eq hok h
theorem aA5:s!"{Bind.lastOf "dict"}.{"get"}" ="dict.get" :=by decide+kernel
theorem aA6:s!"{Bind.lastOf "set"}.{"__contains__"}" ="set.__contains__" :=by decide+kernel
theorem aAd:builtinKind "dict.get" =some .method:=by decide+kernel
theorem aAe:builtinKind "set.__contains__" =some .method:=by decide+kernel
theorem z0:Bind.lastOf "dict.get" ="get" :=by decide+kernel
theorem aAa:Bind.lastOf "set.__contains__" ="__contains__" :=by decide+kernel
theorem aCr:Manifest.varargsMethods.contains "dict.get" =false:=by decide+kernel
theorem aCs:Manifest.varargsMethods.contains "set.__contains__" =false:=by decide+kernel
theorem mO{prog:Program}{w:World}{A:Around}{E:Value->Shared->Prop}{s:Shared}{x:Addr}{self:Value}{args:List Value}{id:String}{B:Builtin}{S:PySem.Spec}{Q:Value->Shared->Prop}(ho:s.heap.get? x=some (w5 id self))(hc:∀ {A':Around}{E':Value->Shared->Prop}{Q':Unit->Shared->Prop},Q' () s->wpAny (model prog w) A' (checkBoundCall id ⟨self::args,[]⟩) Q' E' s) (hq:plainId id=true) (hb:entryFor table id=some B)(g:MeetsIn prog w (B ⟨self::args,[]⟩) S) (h:S A (wants Q E) s):wpAny (model prog w) A (call (.ref x) args) Q E s:=by
 refine wpAny_call (codeAny_of_tree ?_)
 show wpAny _ A.in1 (callAny (.ref x) ⟨args,[]⟩) _ _ s
 delta callAny;dsimp only
 refine zzB (wpAny_load ho ?_)
 simp only[show (Value.type "builtin_function_or_method" ==Value.type "method" || Value.type "builtin_function_or_method" ==Value.type "builtin_function_or_method" || Value.type "builtin_function_or_method" ==Value.type "method-wrapper")=true by decide,if_true]
 refine KFB.if_so (by decide) ?_
 refine zzB (hc ?_)
 refine zzB (zzP (zzP ?_))
 refine⟨plainId_quiet hq _,codeAny_builtin hb ?_⟩
 rw[Around.under_plainId hq]
 exact g A _ s h
theorem tP{h:Heap}{a:Addr}{n:Nat}{t:SetTable}(ho:h.get? a=some {cls:=.type "set",data:=.set #[] n t})(hf:t.fits 0=true)(prog:Program)(w:World):h.SetOf (intKind prog w) a (λ_=>false) 0:=⟨_,#[],n,t,ho,⟨rfl,rfl,rfl⟩,rfl,λe he=>by simp at he,λk=>by simp,by decide,hf,rfl⟩
theorem wQ{prog:Program}{w:World}{a:Addr}{k:Int}{u:Tok}:MeetsIn prog w (Builtin.«frozenset.__contains__» ⟨[.ref a,.int k u],[]⟩) (λ_ R s=>(∃ n t,s.heap.get? a=some {cls:=.type "set",data:=.set #[] n t}/\t.fits 0=true)/\R (.ok (.ret (.bool false))) {s with toks:=s.toks+1}):=.of_wp λA R s ⟨⟨n,t,ho,hf⟩,h⟩=>by
  have hS:=tP ho hf prog w
  unfold Builtin.«frozenset.__contains__» Builtin.Frozenset.oneOther
  simp only[List.isEmpty_nil,bind_assoc]
  unfold Builtin.Frozenset.addrOf Builtin.Frozenset.withSetAsKey setContains
  refine zzB (zzP ?_)
  try dsimp only
  refine zzB (zzP ?_)
  try dsimp only
  refine zzB (wpAny_tryCatch ?_)
  refine wpAny_holding ?_
  refine zzB ((intKind prog w).pyHash (intKind_is _ _ _ _) ?_)
  refine zzB (wpAny_setFind_of (s:= {s with toks:=s.toks+1}) (intKind_is _ _ _ _) rfl hS λr hr=>?_)
  refine zzP ?_
  show wpAny _ _ (ret (Value.bool r.isSome)) _ _ _
  rw[hr]
  exact zzP ⟨_,rfl,h⟩
def eBd(mk:Nat->V)(ok:MO->Bool)(f:EF):EF:=λlo H Q=>f lo H λa H1=>Lf a.rf λi=>Lf H1[i]? λm=>ok m=true/\Q (mk i) H1
def okD:MO->Bool | .dict _ _=>true |_=>false
def okS:MO->Bool | .eset=>true |_=>false
theorem EV.dget{e:Expr}{pos:Pos}{f:EF}(h:EV C r env e f)(hb:attributeBase e "get" env (eval e env)=eval e env)(ht:∀ o y,letTemporaryGo e o y=pure ()):EV C r env (.Attribute e "get" pos) (eBd .dget okD f):=λ_ _ _ _ _ _ hr S F q=>cW hb (h.run hr S F q λS1 N1 r1 q=>q.elim λi hi q=>q.elim λm hH q=>by
  obtain⟨l,_,rfl,g'⟩:=r1.toRef hi
  obtain⟨hok,q⟩:=q
  cases m with
  |dict n g=>
   obtain⟨e1,e2,kvs,⟨⟨oc,od,odt,osl⟩,es,ep,ho,⟨c1,c2,c3⟩,hd,_⟩,_⟩:=S1.objs i _ l hH g'
   simp only at c1 c2 c3 hd
   subst c1 c2 c3 hd
   exact j6 ho ⟨(S1.push _).toks _,N1.trans ((Nx.push _).trans (.toks _)),.dget g' (Heap.get?_push_size _ rfl),q⟩
  |_=>cases hok)
theorem aEf{m:MO}(h:okS m=true):m= .eset:=by cases m<;>first |rfl |cases h
theorem EV.scon2{e:Expr}{pos:Pos}{f:EF}(h:EV C r env e f)(hb:attributeBase e "__contains__" env (eval e env)=eval e env):EV C r env (.Attribute e "__contains__" pos) (eBd .scon okS f):=λ_ _ _ _ _ _ hr S F q=>cW hb (h.run hr S F q λS1 N1 r1 q=>q.elim λi hi q=>q.elim λm hH q=>by
  obtain⟨l,_,rfl,g'⟩:=r1.toRef hi
  obtain⟨hok,q⟩:=q
  obtain rfl:=aEf hok
  obtain⟨e1,e2,n,t,ho,hf⟩:=S1.objs i _ l hH g'
  exact lC ho ⟨(S1.push _).toks _,N1.trans ((Nx.push _).trans (.toks _)),.scon g' (Heap.get?_push_size _ rfl),q⟩)
theorem w3{prog:Program}{w:World}{A:Around}{E:Value->Shared->Prop}{s:Shared}{x d:Addr}{k:Int}{u:Tok}{n:Nat}{t:SetTable}{Q:Value->Shared->Prop}(hx:s.heap.get? x=some (w5 "set.__contains__" (.ref d)))(ho:s.heap.get? d=some {cls:=.type "set",data:=.set #[] n t}) (hf:t.fits 0=true) (h:Q (.bool false) {s with toks:=s.toks+1}):wpAny (model prog w) A (call (.ref x) [.int k u]) Q E s:=by
 have hs:(λ_ R s=>(∃ n t,s.heap.get? d=some {cls:=.type "set",data:=.set #[] n t}/\t.fits 0=true)/\R (.ok (.ret (.bool false))) {s with toks:=s.toks+1}:PySem.Spec) A (wants Q E) s:=⟨⟨n,t,ho,hf⟩,h⟩
 have hc:∀ {A':Around}{E':Value->Shared->Prop}{Q':Unit->Shared->Prop},Q' () s->wpAny (model prog w) A' (checkBoundCall "set.__contains__" ⟨.ref d::[.int k u],[]⟩) Q' E' s:=by
  intro A' E' Q' hq
  have h1:∀ c,({cls:=.type "set",data:=.set #[] n t}:Obj).data≠ .cls c:=λc z=>by injection z
  have h2:okB "set.__contains__" "set.__contains__" ⟨.ref d::[.int k u],[]⟩:=aC7 (.ref d) (.int k u)
  have h3:({cls:=.type "set",data:=.set #[] n t}:Obj).cls= .type "set" :=rfl
  refine kV (T:="set") (nm:="__contains__") (id:="set.__contains__") (full:="set.__contains__") (d:=d) (rest:=[.int k u]) ?_ ?_ ?_ ?_ ho h3 h1 ?_ h2 hq
  ·exact aAe
  ·exact aAa
  ·exact aCs
  ·exact rI
  ·exact aA6
 exact mO hx hc PySem.F.slot_set_contains.plain entry_set_contains wQ hs
def V.bd:V->Option (Bool×Nat) | .dget i=>some (true,i) | .scon i=>some (false,i) |_=>Option.none
def twoV(vs:List V):Option (Int×V):=match vs with | [a,b]=>(Ti a).map λk=>(k,b) |_=>none
def eCv(f:EF)(fs:EFs):EF:=λlo H Q=>f lo H λa H1=>Lf a.bd λp=>fs lo H1 λvs H2=>
 bif p.1 then Lf (twoV vs) λkv=>Lf (H2[p.2]?.bind MO.dct) λd=>Q ((d.2 kv.1).getD kv.2) H2
 else Lf ((one vs).bind Ti) λk=>H2[p.2]? =some .eset/\Q (.bool false) H2
theorem VR.toBd{ρ:List Lc}{h:Heap}{u:Value}{v:V}{t:Bool}{i:Nat}(r:VR ρ h u v)(e:v.bd=some (t,i)):∃ a l,u= .ref a/\ρ[i]? =some l/\h.get? a=some (w5 (bif t then "dict.get" else "set.__contains__") (.ref l.a)):=by
 cases v with
 |dget n=>cases e;exact r.inv
 |scon n=>cases e;exact r.inv
 |_=>first |exact aG e |cases e
theorem two_ok{ρ:List Lc}{h:Heap}{us:List Value}{vs:List V}{p:Int×V}(r:VRs ρ h us vs)(e:twoV vs=some p):∃ t u,us= [.int p.1 t,u]/\VR ρ h u p.2:=by
 refine xEE (pI (F:=twoV) e rfl (λ_=>rfl) λ_ _ _ _=>rfl) λ_ _ z=>?_;subst z
 refine xEA (map_eq_some_iff.mp e) λk hk e=>?_
 refine bL r.a2 λa b z87 ra rb=>?_;subst z87
 refine xE (ra.tiE hk) λt z88=>?_;subst z88
 cases e
 exact⟨t,b,rfl,rb⟩
theorem w4{A:Around}{s2:Shared}{ρ2:List Lc}{H2:MH}{ad:Addr}{l:Lc}{i n:Nat}{g:Int->Option V}{kvs:List (Int×Value)}{k:Int}{t:Tok}{c:Value}{K:Value->Shared->Prop}(hb:∃ o,C.base.heap.get? sysModules=some o)(S2:Sim C H2 ρ2 s2)(D:DctAt C H2 ρ2 s2 i l n g kvs)(go2:s2.heap.get? ad=some (w5 "dict.get" (.ref l.a))) (h:K ((valueAt kvs k).getD c) {s2 with toks:=s2.toks+1}):wpAny C.M A (call (.ref ad) [.int k t,c]) K NoE s2:=by
 have hx':=D.x
 refine cH hx' λoo es' ep ho z89 hd _=>?_;obtain⟨c1,c2,c3⟩:=z89
 exact mO go2 (λhq=>kV (T:="dict") (nm:="get") aAd z0 aCr oV ho c1 (λc=>by rw[hd];intro z;cases z) aA5 (aC6 _ _ _) hq) PySem.F.slot_dict_get.plain PySem.F.entry_dict_get
  (meets_dict_get_default (intKind C.prog C.w) l.a (k:=k) (intKind_is _ _ _ _) (oU S2 D.g D.h hb) _) ⟨_,D.x.mapOf,h⟩
theorem EV.callV{x:Str}{np pos:Pos}{f:EF}{es:List Expr}{fs:EFs}(hb:∃ o,C.base.heap.get? sysModules=some o)(h:EV C r env (.Name x np) f)(ha:EVs C r env es fs)(hfl:k9 env es):EV C r env (.Call (.Name x np) es [] pos) (eCv f fs):=λA s ρ H lo Q hr S F q=>wpAny_Call_ofName (h.run hr S F q λS1 N1 r1 q=>q.elim λp hp q=>by
  obtain⟨t,i⟩:=p
  refine bL (r1.toBd hp) λad l z90 gl go=>?_;subst z90
  refine callWith_of (P:=λh=>h.get? ad=some (w5 (bif t then "dict.get" else "set.__contains__") (.ref l.a))) (by rw[hfl.2];rfl) (λh hh=>tF hh) (wmN (jS ha hfl hr S1 (F.nx N1) q) λa s2 p=>?_)
  obtain⟨ps,kw⟩:=a
  obtain⟨hkw,S2,N2,rs,q⟩:=p
  cases hkw
  have go2:=N2.imm _ _ go (by simp [aV])
  refine⟨go2,?_⟩
  have N:=N1.trans N2
  have hl2:=aO N2.pre gl
  cases t with
  |true=>
   replace q:=show Lf (twoV _) _ from q
   refine q.elim λkv hkv q=>q.elim λd hd q=>?_
   refine xE (qM S2 hl2 (tR hd)) λkvs D=>?_
   refine gZ (two_ok rs hkv) λt u e ru=>?_
   cases e
   refine w4 hb S2 D go2 ?_
   rcases(D.f kv.1).same with ⟨e,e'⟩ |⟨x',v',e,e',rv⟩
   ·rw[e];rw[e']at q;exact bK.from N (.tok S2 ru q)
   ·rw[e];rw[e']at q;exact bK.from N (.tok S2 rv q)
  |false=>
   replace q:=show Lf ((one _).bind Ti) _ from q
   refine q.elim λk hk q=>?_
   refine xEA (bind_eq_some_iff.mp hk) λv hv hk=>?_
   refine xEA (f9 rs hv) λu e ru=>?_
   cases e
   refine xE (ru.tiE hk) λt z91=>?_;subst z91
   refine iW (S2.objs i _ l q.1 hl2) λg1 g2 n t ho hf=>?_
   exact w3 go2 ho hf (bK.from N (.tok S2 (.bool _) q.2)))
end
section
variable {C:Cx}{r:Nat}{env:Env}
theorem Room.deeper{r:Nat}{A:Around}(h:Room (r+1) A)(env:Env):Room r (A.deeper env):=by
 refine xAA h λh1 h2 h3=>?_
 refine⟨h1,?_,?_⟩
 ·show A.depth+1+10*r<=700;exact A30 h2
 ·show A.units+3+40*r<=8000;exact A31 h3
def lo0:Lo:=λ_=>none
def loB:List Str->List V->Lo->Lo
 |x::xs,v::vs,lo=>loB xs vs (upd lo x v)
 |_,_,lo=>lo
theorem loB_c(x:Str)(xs:List Str)(v:V)(vs:List V)(lo:Lo):loB (x::xs) (v::vs) lo=loB xs vs (upd lo x v):=rfl
theorem aCd{ρ:List Lc}{h:Heap}(kindOf:Str->Option NameKind)(xs:List Str):∀ {us:List Value}{vs:List V}{m cm:Str->Option Value}{lo:Lo},VRs ρ h us vs->us.length=xs.length-> (∀ x∈xs,kindOf x=some .local\/kindOf x=some .cell)-> (∀ x,kindOf x=some .local->OV ρ h (m x) (lo x))->(∀ x,kindOf x=some .cell->OV ρ h (cm x) (lo x))-> (∀ x,kindOf x=some .local->OV ρ h (bindL kindOf (xs.zip us) m x) (loB xs vs lo x))/\(∀ x,kindOf x=some .cell->OV ρ h (bindC kindOf (xs.zip us) cm x) (loB xs vs lo x)):=by
 induction xs with
 |nil=>
  intro us vs m cm lo r hl _ a b
  cases r with
  |nil=>exact⟨a,b⟩
  |cons=>exact absurd hl (Nat.succ_ne_zero _)
 |cons x xs ih=>
  intro us vs m cm lo r hl hk h1 h2
  cases r with
  |nil=>exact absurd hl (Nat.succ_ne_zero _).symm
  | @cons u us v vs a b=>
  simp only[List.zip_cons_cons,bindL,bindC,loB_c]
  have hk':∀ y∈xs,kindOf y=some .local\/kindOf y=some .cell:=λy hy=>hk y (mem_cons_of_mem _ hy)
  have hl':=Nat.succ.inj hl
  refine Or.elim (hk x mem_cons_self) (λq=>?_) λq=>?_
  ·rw[if_pos q,if_pos q]
   refine ih b hl' hk' (λy hy=>?_) (λy hy=>?_)
   ·by_cases e:y=x
    ·simp [upd,e];exact a
    ·simp [upd,e];exact h1 y hy
   ·have e:y≠x:=by rintro rfl;rw[q]at hy;cases hy
    simp [upd,e];exact h2 y hy
  ·have q': ¬kindOf x=some .local:=by rw[q];intro z;cases z
   rw[if_neg q',if_neg q']
   refine ih b hl' hk' (λy hy=>?_) (λy hy=>?_)
   ·have e:y≠x:=by rintro rfl;rw[q]at hy;cases hy
    simp [upd,e];exact h1 y hy
   ·by_cases e:y=x
    ·simp [upd,e];exact a
    ·simp [upd,e];exact h2 y hy
theorem eL{x:Str}:∀ (names:List (Str×NameKind)) (n:Nat) (acc:List (Str×Addr)),(acc.lookup x).isSome=true\/(∃ k,(x,k)∈names/\k= .cell)->((cellsFrom n names acc).lookup x).isSome=true
 | [],_,_,h=>by
  rcases h with h |⟨k,h,_⟩
  ·exact h
  ·cases h
 | (y,k)::r,n,acc,h=>by
  unfold cellsFrom
  split
  ·rename_i hk
   refine eL r (n+1) _ ?_
   rcases h with h |⟨k',h,hk'⟩
   ·left
    simp only[List.lookup]
    split
    ·rfl
    ·exact h
   ·refine Or.elim (mem_cons.mp h) (λe=>?_) λe=>?_
    ·cases e;left;simp [List.lookup]
    ·exact .inr ⟨k',e,hk'⟩
  ·rename_i hk
   refine eL r n _ ?_
   rcases h with h |⟨k',h,hk'⟩
   ·exact .inl h
   ·refine Or.elim (mem_cons.mp h) (λe=>?_) λe=>?_
    ·cases e;subst hk';exact absurd rfl hk
    ·exact .inr ⟨k',e,hk'⟩
structure Def(C:Cx)(a:Addr)(fd:FuncData)(body:List Stmt):Prop where
 obj:∃ o,C.base.heap.get? a=some o/\o.data= .func fd
 code:C.base.heap.CodeRec fd.code fd.qualname
 body:fd.body= .stmts body
 clo:fd.closure= []
 gl:fd.globals=mainGlobals
 bi:fd.builtins=builtinsNs
 kind:fd.scope.kind= .function
 co:fd.scope.isCoroutine=false
 free:∀ x:Str,fd.scope.names.lookup x≠some .free
theorem Fm.call{a:Addr}{fd:FuncData}{body:List Stmt}(D:Def C a fd body){H:MH}{ρ:List Lc}{s s1:Shared}{names:List Str}{us:List Value}{vs:List V}(S:Sim C H ρ s)(hu:VRs ρ s.heap us vs)(hl:us.length=names.length)(hn:∀ x∈names,fd.scope.names.lookup x=some .local\/fd.scope.names.lookup x=some .cell)(I:InCallC s (callEnvC fd s.heap.objs.size a).locals (bindL (callEnvC fd s.heap.objs.size a).kindOf (names.zip us) λ_=>none) (callEnvC fd s.heap.objs.size a).cells (bindC (callEnvC fd s.heap.objs.size a).kindOf (names.zip us) λ_=>none) s1):Sim C H ρ s1/\Nx ρ noW s ρ s1/\Fm C (callEnvC fd s.heap.objs.size a) ρ s1 (loB names vs lo0)/\(∀ b,Wr (callEnvC fd s.heap.objs.size a) b->s.heap.get? b=none):=by
 obtain⟨⟨⟨h',tk,e⟩,ns,keep,fresh⟩,cell,apart,above⟩:=I
 subst e
 have S1:Sim C H ρ {s with heap:=h',toks:=tk}:=S.ext keep
 have N1:Nx ρ noW s ρ {s with heap:=h',toks:=tk}:=.ext keep
 have hfr:∀ b,Wr (callEnvC fd s.heap.objs.size a) b->s.heap.get? b=none:=by
  rintro b (rfl |⟨x,hx⟩)
  ·exact bD _
  ·have:=above x b (mem_of_lookup hx)
   cases q:s.heap.get? b with
   |none=>rfl
   |some o=>have h2:=Heap.lt_size q;exact absurd (show s.heap.objs.size<b from this) (Nat.not_lt.mpr (Nat.le_of_lt h2))
 have hu1:=hu.mono (prefix_refl ρ) (dX keep)
 have B:=aCd (ρ:=ρ) (h:=h') (callEnvC fd s.heap.objs.size a).kindOf names (m:=λ_=>none) (cm:=λ_=>none) (lo:=lo0) hu1 hl hn (λ_ _=>trivial) (λ_ _=>trivial)
 refine⟨S1,N1,⟨D.kind,D.gl,D.bi,⟨_,ns,B.1⟩,λx hx=>?_,λb hb=>⟨eB S (hfr b hb),dL S (hfr b hb)⟩,λx c hx=>?_,λx y c hx hy=>?_,?_⟩,hfr⟩
 ·refine Or.elim hx (λhx=>?_) λhx=>?_
  ·have hs:((callEnvC fd s.heap.objs.size a).cells.lookup x).isSome=true:=eL _ _ _ (.inr ⟨_,mem_of_lookup hx,rfl⟩)
   refine xE (Option.isSome_iff_exists.mp hs) λc hc=>?_
   refine xEA (cell x c hc) λo h1 h2=>?_
   exact⟨c,o,_,hc,h1,h2,B.2 x hx⟩
  ·exact absurd hx (D.free x)
 ·have:=above x c (mem_of_lookup hx)
  intro q;rw[q]at this;exact Nat.lt_irrefl _ this
 ·exact name_of_addr apart (mem_of_lookup hx) (mem_of_lookup hy)
 ·rintro b (rfl |⟨x,hx⟩)
  ·refine gS ns λo _ _ g _=>?_;exact⟨o,g⟩
  ·refine xEA (cell x b hx) λo g _=>?_;exact⟨o,g⟩
theorem Nx.leave{ρ ρ1:List Lc}{s s0 s1:Shared}{W:Addr->Prop}(a:Nx ρ noW s ρ s0)(b:Nx ρ W s0 ρ1 s1)(hW:∀ x,W x->s.heap.get? x=none):Nx ρ noW s ρ1 s1:=by
 have T:Nx ρ W s ρ1 s1:=a.wr.trans b
 exact⟨T.pre,T.new,λx o e ho _=>T.kp x o e ho (λq=>by rw[hW x q]at e;cases e),T.imm,T.al⟩
def j3(Q:EK):SK:=λfl _ H=>match fl with | .ret v=>Q v H | .next=>Q .none H |_=>False
def iK(names:List Str)(more:List V)(f:SF):CF:=λvs H Q=>(vs++more).length=names.length/\f (loB names (vs++more) lo0) H (j3 Q)
def Binds(C:Cx)(fd:FuncData)(names:List Str)(dflt:List Value):Prop:=∀ (s:Shared) (us:List Value),(∀ b o,C.base.heap.get? b=some o->s.heap.get? b=some o)->(us++dflt).length=names.length->BindsTo s fd ⟨us,[]⟩ (names.zip (us++dflt))
def qU(C:Cx)(ρ:List Lc)(s:Shared)(Q:EK):Result->Shared->Prop
 | .ok (.ret x),s'=>bK C ρ s Q x s'
 |_,_=>False
theorem iC{a:Addr}{fd:FuncData}{body:List Stmt}(D:Def C a fd body){names:List Str}{dflt:List Value}{more:List V}{f:SF}(hgen:fd.scope.isGenerator=false)(hb:Binds C fd names dflt) (hd:∀ ρ h,VRs ρ h dflt more)(hn:∀ x∈names,fd.scope.names.lookup x=some .local\/fd.scope.names.lookup x=some .cell)(hf:∀ L,SVs C r (callEnvC fd L a) body f){A:Around}{s:Shared}{ρ:List Lc}{H:MH}{us:List Value}{vs:List V}{Q:EK} (hr:Room (r+1) A) (S:Sim C H ρ s) (hu:VRs ρ s.heap us vs) (e:iK names more f vs H Q):codeAny C.M A (.call (.ref a) ⟨us,[]⟩) (qU C ρ s Q) s:=by
 refine xEA D.obj λo ho hdata=>?_
 refine xA e λhlen e=>?_
 have hu':VRs ρ s.heap (us++dflt) (vs++more):=hu.append (hd _ _)
 have hlen':(us++dflt).length=names.length:=hu'.length.trans hlen
 refine codeAny_call_function hr.lt (S.keep _ _ ho) hdata D.co hgen D.body (D.code.keeps S.keep) (hb s us S.keep hlen' _ _ _ _ ?_)
 rw[D.clo]
 have hbk:∀ x∈names.zip (us++dflt),fd.scope.names.lookup x.1=some .local\/fd.scope.names.lookup x.1=some .cell:=λx hx=>hn x.1 (List.of_mem_zip hx).1
 refine wpAny_newFunctionEnv_cells D.kind (λx hx=>(hbk x hx).imp_right λq=>⟨q,eL _ _ _ (.inr ⟨_,mem_of_lookup q,rfl⟩)⟩) λenv he s1 I=>?_
 subst he
 refine xAAA (Fm.call D S hu' hlen' hn I) λS1 N1 F1 hfr=>?_
 refine⟨(C.lim.keeps S.keep).keeps I.toInCall.keep,codeAny_func (wmN (hf s.heap.objs.size (hr.deeper _) S1 F1 e) λfw s2 p=>?_)⟩
 obtain⟨S2,N2,F2,r2,q⟩:=p
 cases r2 with
 |ret r2=>exact⟨S2,N1.leave N2 hfr,r2,q⟩
 |next=>exact⟨S2,N1.leave N2 hfr,.none,q⟩
 |brk=>exact q.elim
 |cont=>exact q.elim
def CC(C:Cx)(r:Nat)(f:Value)(g:CF):Prop:=∀ {A:Around}{s:Shared}{ρ:List Lc}{H:MH}{us:List Value}{vs:List V}{Q:EK},Room r A->Sim C H ρ s->VRs ρ s.heap us vs->g vs H Q->codeAny C.M A (.call f ⟨us,[]⟩) (qU C ρ s Q) s
theorem CC.cv{a:Addr}{g:CF}{o:Obj}{fd:FuncData}(ho:C.base.heap.get? a=some o)(hd:o.data= .func fd)(h:CC C r (.ref a) g):CV C r (.ref a) g:=by
 refine⟨λhp hk=>⟨.frame,.inl rfl,(Looks.ld (part:=none) (hk _ _ ho)).andThen (by rw[hd];exact .now)⟩,λhr S hu e=>wpAny_call (codeAny_mono (h hr S hu e) λrr s' h=>?_)⟩
 rcases rr with x | (x |_ |_ |_)<;>first |exact h |exact h.elim
theorem CV.def_{a:Addr}{fd:FuncData}{body:List Stmt}(D:Def C a fd body){names:List Str}{dflt:List Value}{more:List V}{f:SF}(hgen:fd.scope.isGenerator=false)(hb:Binds C fd names dflt) (hd:∀ ρ h,VRs ρ h dflt more)(hn:∀ x∈names,fd.scope.names.lookup x=some .local\/fd.scope.names.lookup x=some .cell)(hf:∀ L,SVs C r (callEnvC fd L a) body f):CV C (r+1) (.ref a) (iK names more f):=let ⟨_,ho,hdata⟩:=D.obj
 CC.cv ho hdata λhr S hu e=>iC D hgen hb hd hn hf hr S hu e
end
section
variable {C:Cx}{r:Nat}{env:Env}
def fJ(cells:List (Str×Addr)):List (Str×NameKind)->List (Str×Addr)->List (Str×Addr)
 | [],acc=>acc
 | (n,k)::r,acc=>if k== .free then fJ cells r ((n,(cells.lookup n).getD 0)::acc) else fJ cells r acc
theorem i9{M:Model}{A:Around}{E:Value->Shared->Prop}{s:Shared}(f:Str×NameKind->List (Str×Addr)->Sem (ForInStep (List (Str×Addr))))(hf:∀ name kind cs,f (name,kind) cs=if kind== .free then(do let a<-cellOf env name;pure (.yield ((name,a)::cs))) else pure (.yield cs)):∀ (names:List (Str×NameKind)) (acc:List (Str×Addr)) (Q:List (Str×Addr)->Shared->Prop),(∀ p∈names,p.2= .free->∃ c,env.cells.lookup p.1=some c)-> Q (fJ env.cells names acc) s->wpAny M A (forIn names acc f) Q E s
 | [],acc,Q,_,h=>by rw[forIn_nil];exact zzP h
 | (name,kind)::r,acc,Q,hc,h=>by
  rw[forIn_cons,hf]
  unfold fJ at h
  split at h
  ·rename_i hk
   rw[if_pos hk]
   refine xE (hc (name,kind) mem_cons_self (by simpa using hk)) λc hc1=>?_
   dsimp only at hc1
   rw[hc1]at h
   refine zzB (zzB (wpAny_cellOf hc1 (zzP ?_)))
   exact i9 f hf r _ Q (λp hp=>hc p (mem_cons_of_mem _ hp)) h
  ·rename_i hk
   rw[if_neg hk]
   exact zzB (zzP (i9 f hf r _ Q (λp hp=>hc p (mem_cons_of_mem _ hp)) h))
theorem jA{cells:List (Str×Addr)}{x:Str}{c:Addr}:∀ (names:List (Str×NameKind)) (acc:List (Str×Addr)),(∀ p∈names,p.2= .free->∃ c,cells.lookup p.1=some c)->(x,c)∈fJ cells names acc->(x,c)∈acc\/cells.lookup x=some c
 | [],_,_,h=>.inl h
 | (n,k)::r,acc,hc,h=>by
  unfold fJ at h
  split at h
  ·rename_i hk
   refine Or.elim (jA r _ (λp hp=>hc p (mem_cons_of_mem _ hp)) h) (λq=>?_) λq=>?_
   ·refine Or.elim (mem_cons.mp q) (λe=>?_) λe=>?_
    ·cases e
     refine xE (hc (x,k) mem_cons_self (by simpa using hk)) λc hc1=>?_
     right;simp at hc1;rw[hc1];rfl
    ·exact .inl e
   ·exact .inr q
  ·exact jA r _ (λp hp=>hc p (mem_cons_of_mem _ hp)) h
theorem jB{cells:List (Str×Addr)}{x:Str}:∀ (names:List (Str×NameKind)) (acc:List (Str×Addr)),(∀ p∈names,p.2= .free->∃ c,cells.lookup p.1=some c)->(acc.lookup x).isSome=true\/(x,NameKind.free)∈names->((fJ cells names acc).lookup x).isSome=true
 | [],_,_,h=>by
  refine Or.elim h (λh=>?_) λh=>?_
  ·exact h
  ·cases h
 | (n,k)::r,acc,hc,h=>by
  unfold fJ
  split
  ·rename_i hk
   refine jB r _ (λp hp=>hc p (mem_cons_of_mem _ hp)) ?_
   refine Or.elim h (λh=>?_) λh=>?_
   ·left
    simp only[List.lookup]
    split
    ·rfl
    ·exact h
   ·refine Or.elim (mem_cons.mp h) (λe=>?_) λe=>?_
    ·cases e;left;simp [List.lookup]
    ·exact .inr e
  ·rename_i hk
   refine jB r _ (λp hp=>hc p (mem_cons_of_mem _ hp)) ?_
   refine Or.elim h (λh=>?_) λh=>?_
   ·exact .inl h
   ·refine Or.elim (mem_cons.mp h) (λe=>?_) λe=>?_
    ·cases e;exact absurd rfl hk
    ·exact .inr e
def sY(env:Env)(n:Str)(k:NameKind):Bool:=k== .free && env.scope.kind== .function && env.kindOf n==some .cell
def fK(env:Env)(sc:Scope)(L:Addr):Env:={(newEnv sc L env.globals (fJ env.cells sc.names []) env.qual none .none (some env) builtinsNs) with scope:= {sc with names:=sc.names.map λp=>if sY env p.1 p.2 then(p.1,.cell) else(p.1,p.2)}}
theorem l4{f:Str->NameKind->NameKind}{x:Str}:∀ l:List (Str×NameKind),(l.map λp=>(p.1,f p.1 p.2)).lookup x=(l.lookup x).map (f x)
 | []=>rfl
 | (n,k)::r=>by
  simp only[map_cons,List.lookup]
  cases h:x==n with
  |true=>obtain rfl:=beq_iff_eq.mp h;rfl
  |false=>exact l4 r
theorem iJ(env:Env)(sc:Scope)(L:Addr)(x:Str):(fK env sc L).kindOf x=(sc.names.lookup x).map λk=>if sY env x k then .cell else k:=by
 show(sc.names.map λp=>if sY env p.1 p.2 then(p.1,NameKind.cell) else(p.1,p.2)).lookup x=_
 rw[<-l4 (f:=λn k=>if sY env n k then .cell else k)]
 congr 1
 refine List.map_congr_left λp _=>?_
 split<;>rfl
structure kF(env:Env)(sc:Scope)(hid:List Str):Prop where
 kind:sc.kind= .function
 nocell:(sc.names.all λp=>p.2 != .cell)=true
 free:(sc.names.all λp=>p.2 != .free || (env.kindOf p.1==some .cell))=true
 hid:(sc.names.all λp=>p.2 != .local || (sc.names.lookup p.1==some .local && hid.contains p.1))=true
def hide(hid:List Str)(lo:Lo):Lo:=λx=>if hid.contains x then none else lo x
theorem Fm.comp{sc:Scope}{hid:List Str}(K:kF env sc hid)(hh:∀ x∈hid,sc.names.lookup x≠some .free){H:MH}{ρ:List Lc}{s s1:Shared}{lo:Lo}{L:Addr}(S:Sim C H ρ s)(F:Fm C env ρ s lo)(hL:s.heap.get? L=none)(hns:s1.heap.Ns L λ_=>none) (N:Nx ρ noW s ρ s1):Fm C (fK env sc L) ρ s1 (hide hid lo)/\(∀ b,Wr (fK env sc L) b->b=L\/Wr env b):=by
 have hfc:∀ p∈sc.names,p.2= .free->∃ c,env.cells.lookup p.1=some c:=λp hp hk=>by
  have h:=all_eq_true.mp K.free p hp
  rw[hk]at h
  simp at h
  refine gS (F.cl p.1 (.inl h)) λc _ _ hc _=>?_
  exact⟨c,hc⟩
 have hcells:∀ x c,(fK env sc L).cells.lookup x=some c->env.cells.lookup x=some c:=λx c h=>by
  refine Or.elim (jA sc.names [] hfc (mem_of_lookup h)) (λq=>?_) λq=>?_
  ·cases q
  ·exact q
 have hW:∀ b,Wr (fK env sc L) b->b=L\/Wr env b:=by
  rintro b (rfl |⟨x,hx⟩)
  ·exact .inl rfl
  ·exact .inr (.inr ⟨x,hcells x b hx⟩)
 have F1:=F.next N λ_ _ q=>q
 refine⟨⟨K.kind,F.gl,F.bi,⟨_,hns,λx hx=>?_⟩,λx hx=>?_,λb hb=>?_,λx c hc=>?_,λx y c hx hy=>F.inj x y c (hcells x c hx) (hcells y c hy),λb hb=>?_⟩,hW⟩
 ·rw[iJ]at hx
  have hm:hid.contains x=true:=by
   cases hk:sc.names.lookup x with
   |none=>rw[hk]at hx;cases hx
   |some k=>
    rw[hk]at hx
    simp only[map_some,Option.some.injEq]at hx
    split at hx
    ·cases hx
    ·subst hx
     have h:=all_eq_true.mp K.hid _ (mem_of_lookup hk)
     simp at h
     simpa using h.2
  unfold hide
  rw[if_pos hm]
  trivial
 ·rw[iJ]at hx
  have hfr:sc.names.lookup x=some .free:=by
   cases hk:sc.names.lookup x with
   |none=>rw[hk]at hx;refine Or.elim hx (λhx=>?_) λhx=>?_<;>cases hx
   |some k=>
    have h2:=all_eq_true.mp K.nocell _ (mem_of_lookup hk)
    rw[hk]at hx
    simp only[map_some,Option.some.injEq]at hx
    by_cases ho:sY env x k=true
    ·have:k= .free:=by unfold sY at ho;simp at ho;exact ho.1.1
     rw[this]
    ·rw[if_neg ho]at hx
     refine Or.elim hx (λhx=>?_) λhx=>?_
     ·subst hx;simp at h2
     ·rw[hx]
  have hkx:env.kindOf x=some .cell:=by
   have h:=all_eq_true.mp K.free _ (mem_of_lookup hfr)
   simpa using h
  refine cH (F1.cl x (.inl hkx)) λc o u h1 h2 h3 h4=>?_
  have hs:=jB sc.names [] hfc (.inr (mem_of_lookup hfr))
  refine xE (Option.isSome_iff_exists.mp hs) λc' hc'=>?_
  have:=hcells x c' hc'
  rw[h1]at this
  cases this
  refine⟨c,o,u,hc',h2,h3,?_⟩
  have hn: ¬(hid.contains x=true):=λq=>hh x (by simpa using q) hfr
  unfold hide
  rw[if_neg hn]
  exact h4
 ·rcases hW b hb with rfl |q
  ·exact⟨eB S hL,dL S hL⟩
  ·exact F1.own b q
 ·intro q
  have q':c=L:=q
  rw[q']at hc
  refine xE (F.alv L (.inr ⟨x,hcells x L hc⟩)) λo ho=>?_
  rw[hL]at ho;cases ho
 ·rcases hW b hb with rfl |q
  ·refine gS hns λo _ _ g _=>?_;exact⟨o,g⟩
  ·exact F1.alv b q
def LW(env:Env):Addr->Prop:=λb=>b=env.locals
noncomputable abbrev ALV(C:Cx)(r:Nat)(env:Env)(t:Expr)(f:AF):Prop:=AVW C LW r env t f
theorem ALV.name{x:Str}{pos}(hk:env.kindOf x=some .local):ALV C r env (.Name x pos) (aN x):=λ_ _ _ _ _ _ _ _ _ S F rv e=>wpAny_assign_Name (fP (W:=LW env) S F rv (.inl ⟨hk,rfl⟩) λ_ S N F=>⟨S,N,F,e⟩)
noncomputable abbrev ALVs(C:Cx)(r:Nat)(env:Env)(ts:List Expr)(f:AFs):Prop:=mS C LW r env ts f
theorem ALV.tuple{ts:List Expr}{k:Nat}{pos}{n:Nat}{g:AFs}(h:ALVs C r env ts g)(hn:(assignEach ts env).length=n)(hstar:(assignEach ts env).findIdx? (·.1)=none):ALV C r env (.Tuple ts k pos) (t5 n g):=AVW.tuple h hn hstar
end
section
variable {C:Cx}{r:Nat}{env:Env}
def gR(K:ItK C):Prop:=∀ {A:Around}{s:Shared}{ρ:List Lc}{H:MH}{it:K.σ}{x:Value}{X:Addr->Prop}{Q:Value->Shared->Prop},Sim C H ρ s->(∃ y,K.nx it H y)->K.rel ρ s it x X->Q x s->wpAny C.M A (pyIter x) Q NoE s
theorem gR.list:gR (cU C):=by
 rintro A s ρ H it x X Q _ _ ⟨a,rfl,rfl,l,h1,h2⟩ h
 exact wpAny_pyIter_listiter h2 h
theorem gR.range:gR (hV C):=by
 rintro A s ρ H it x X Q _ _ ⟨a,rfl,rfl,h1⟩ h
 exact wpAny_pyIter_rangeiter h1 h
theorem gR.enum:gR (l8 C):=by
 rintro A s ρ H it x X Q _ _ R h
 cases R with
 |mk h1 h2 h3 h4=>exact wpAny_pyIter_enum h3 h
def CnV(C:Cx)(r:Nat)(env:Env)(cs:List Expr)(f:TF):Prop:=∀ ⦃A:Around⦄⦃s:Shared⦄⦃ρ:List Lc⦄⦃H:MH⦄⦃lo:Lo⦄⦃Q:Bool->MH->Prop⦄,Room r A->Sim C H ρ s->Fm C env ρ s lo->f lo H Q->
  wpAny C.M A (forIn cs true λc ok=>if ok=true then(do let ok<-PySem.isTrue c env (eval c env);pure (ForInStep.yield ok)) else pure (ForInStep.yield ok)) (k4 C ρ s Q) NoE s
theorem CnV.nil:CnV C r env [] (tK true):=by
 intro A s ρ H lo Q hr S F e
 rw[forIn_nil]
 exact zzP ⟨S,.refl,e⟩
theorem sG{M:Model}{A:Around}{E:Value->Shared->Prop}{s:Shared}{Q:Bool->Shared->Prop}:∀ cs:List Expr,Q false s->wpAny M A (forIn cs false λc ok=>if ok=true then(do let ok<-PySem.isTrue c env (eval c env);pure (ForInStep.yield ok)) else pure (ForInStep.yield ok)) Q E s
 | [],h=>by rw[forIn_nil];exact zzP h
 |c::cs,h=>by
  rw[forIn_cons,if_neg (by decide)]
  exact zzB (zzP (sG cs h))
theorem CnV.cons{c:Expr}{cs:List Expr}{f g:TF}(h:TV C r env c f)(hs:CnV C r env cs g):CnV C r env (c::cs) (bV f g):=by
 intro A s ρ H lo Q hr S F q
 rw[forIn_cons,if_pos rfl]
 exact zzB (zzB (h.run hr S F q λ{b _ _ _} S1 N1 q=>zzP (match b,q with
  |true,q=>wmN (hs hr S1 (F.nx N1) q) λ_ _ p=>p.from N1
  |false,q=>sG _ ⟨S1,N1,q⟩)))
noncomputable abbrev LK:=Lo->MH->Prop
noncomputable abbrev BF:=Nat->Lo->MH->LK->Prop
def vU(elt:Expr)(gens:List Comprehension)(sc:Scope)(pos:Pos)(d:Nat)(acc:Value)(env:Env)(K:Sem PySem.Fin):Sem PySem.Fin:=
 match gens[d+1]? with
 |some g'=>do
  let x<-eval g'.iter env
  standAt g'.iter.pos
  if (g'.is_async != 0)=true then do
    let x<-foldedIterable g'.iter x
    let it<-holding [x] (if (g'.is_async != 0)=true then asyncIter x else pyIter x)
    let _<-runOwn (Code.compStart (elt.ListComp gens sc pos) (d+1) it acc env) env
    K
   else do
    let x<-foldedSetIterable g'.iter env x
    let it<-holding [x] (if (g'.is_async != 0)=true then asyncIter x else pyIter x)
    let _<-runOwn (Code.compStart (elt.ListComp gens sc pos) (d+1) it acc env) env
    K
 |none=>(do
   let v<-eval elt env
   let _<-call (Value.builtin "list.append") [acc,v]
   pure ():Sem PUnit) >>=λ_=>K
def BV(C:Cx)(r:Nat)(env:Env)(elt:Expr)(gens:List Comprehension)(sc:Scope)(pos:Pos)(d:Nat)(bf:BF):Prop:=∀ ⦃A:Around⦄⦃s:Shared⦄⦃ρ:List Lc⦄⦃H:MH⦄⦃lo:Lo⦄⦃Q0:LK⦄⦃ai:Nat⦄⦃l:Lc⦄⦃Q:PySem.Fin->Shared->Prop⦄⦃K:Sem PySem.Fin⦄,Room r A->Sim C H ρ s->Fm C env ρ s lo->ρ[ai]? =some l->bf ai lo H Q0->
  (∀ {s' ρ' lo' H'},Sim C H' ρ' s'->Nx ρ (LW env) s ρ' s'->Fm C env ρ' s' lo'->Q0 lo' H'->wpAny C.M A K Q NoE s')->wpAny C.M A (vU elt gens sc pos d (.ref l.a) env K) Q NoE s
def kY(f:EF):BF:=λai lo H Q=>f lo H λv H1=>Lf (H1[ai]?.bind MO.own) λvs=>vs.length<1000000/\Q lo (H1.set ai (.list (vs++[v])))
theorem BV.last{elt:Expr}{gens:List Comprehension}{sc:Scope}{pos:Pos}{d:Nat}{f:EF}(h:EV C r env elt f)(hg:gens[d+1]? =none):BV C r env elt gens sc pos d (kY f):=by
 intro A s ρ H lo Q0 ai l Q K hr S F hl q hK
 unfold vU
 rw[hg]
 refine zzB (zzB (h.run hr S F q λ{x s1 ρ1 v1 H1} S1 N1 r1 q=>q.elim λvs hv q=>?_))
 refine xEE (iZ S1 (aO N1.pre hl) (lZ hv)) λxs n O=>?_
 have hsz:=O.r.sz
 have hlen:=q.1
 have hz:xs.size<=sizeLine:=by rw[sizeLine_eq];exact A33 hsz hlen
 refine zzB (wpAny_call_entry slot_list_append ⟨_,O.x,rfl⟩ entry_list_append ?_ (args_list_append _ _))
 show wpAny _ _ (updateSeq l.a (·.push x) >>=λ_=>ret .none) _ _ s1
 refine zzB (wpAny_updateSeq O.x rfl (zzP ⟨.none,rfl,zzP ?_⟩) hz (by rw[Array.size_push];exact succ_le_succ hz))
 have st:=O.put (k:=s1.toks) S1 (λxs=>xs.push x) (by simpa using O.r.append (.cons r1 .nil))
 have N2:Nx ρ noW s ρ1 _:=N1.trans (st.2 _)
 exact hK st.1 N2.wr (F.nx N2) q.2
def rC(K:ItK C)(tgt:AF)(t:TF)(bf:Lo->MH->LK->Prop):Nat->K.σ->Lo->MH->LK->Prop
 |0,_,_,_,_=>False
 |n+1,it,lo,H,Q=>K.nx it H λres H1=>match res with
  |none=>Q lo H1
  |some p=>tgt p.1 lo H1 λlo1 H2=>t lo1 H2 λb H3=>bif b then bf lo1 H3 (λlo2 H4=>rC K tgt t bf n p.2 lo2 H4 Q) else rC K tgt t bf n p.2 lo1 H3 Q
inductive CEnd(C:Cx)(env:Env)(ρ0:List Lc)(s0:Shared)(ai:Nat)(l:Lc)(Q:LK)(s':Shared):Prop
 |mk {ρ':List Lc}{lo':Lo}{H':MH} (S:Sim C H' ρ' s') (N:Nx ρ0 (LW env) s0 ρ' s') (F:Fm C env ρ' s' lo') (hl:ρ'[ai]? =some l) (q:Q lo' H'):CEnd C env ρ0 s0 ai l Q s'
def mR(C:Cx)(env:Env)(ρ0:List Lc)(s0:Shared)(ai:Nat)(l:Lc)(Q:LK):Result->Shared->Prop
 | .ok _,s'=>CEnd C env ρ0 s0 ai l Q s'
 | .error _,_=>False
theorem oA{K:ItK C}{elt target iter:Expr}{ifs:List Expr}{gens:List Comprehension}{sc:Scope}{pos:Pos}{d:Nat}{tgt:AF}{t:TF}{bf:BF}(hg:gens[d]? =some ⟨target,iter,ifs,0⟩)(ht:ALV C r env target tgt) (hc:CnV C r env ifs t) (hb:BV C r env elt gens sc pos d bf) (htg:K.tg target/\K.need<=r){ai:Nat}{l:Lc}:∀ (n:Nat){A:Around}{s0 s:Shared}{ρ0 ρ:List Lc}{H:MH}{lo:Lo}{it:K.σ}{x:Value}{X:Addr->Prop}{Q:LK},Room r A->ρ[ai]? =some l->Nx ρ0 (LW env) s0 ρ s->Sim C H ρ s->Fm C env ρ s lo-> K.rel ρ s it x X->Apart C env ρ s0 X->rC K tgt t (bf ai) n it lo H Q-> codeAny C.M A (.compLoop (.ListComp elt gens sc pos) d x (.ref l.a) env) (mR C env ρ0 s0 ai l Q) s
 |0,_,_,_,_,_,_,_,_,_,_,_,_,_,_,_,_,_,_,e=>e.elim
 |n+1,A,s0,s,ρ0,ρ,H,lo,it,x,X,Q,hr,hl,N,S,F,R,hX,e=>by
  refine codeAny_of_tree ?_
  rw[Around.under_of_weight (c:=.compLoop (.ListComp elt gens sc pos) d x (.ref l.a) env) rfl rfl]
  show wpAny C.M A ((compTurn (.ListComp elt gens sc pos) d x (.ref l.a) env).onRaise (λx=>do noteFrame x env;theTreesLotGoes x)) _ _ s
  refine wpAny_onRaise (wpAny_mono (Q:=λfin s'=>match fin with
   | .done f=>mR C env ρ0 s0 ai l Q (.ok f) s'
   | .again c'=>c'.quiet=true/\codeAny C.M A c' (mR C env ρ0 s0 ai l Q) s') (E:=NoE) ?_ (λ_ _ z=>z) (λ_ _ z=>z.elim))
  unfold compTurn
  simp only[hg]
  refine zzB (wpAny_standAt (zzB (wmN (K.next htg.2 hr S R hX.two e) λo s1 p=>?_)))
  cases p with
  |done S1 I1 q=>exact zzP ⟨S1,N.stepI I1 (λb q=>(hX b q).1),F.nextI I1 (λb hw q=>(hX b q).2.2.2 hw),aO I1.pre hl,q⟩
  |item S1 I1 ru R1 q=>
   have hl1:=aO I1.pre hl
   have hX1:Apart C env _ s0 X:=λb q=>let ⟨o',e'⟩:=K.alive R b q;⟨(hX b q).1,I1.owns e' (hX b q).2.1,(hX b q).2.2⟩
   refine zzB (wmN (K.lgo (target:=target) hr S1 R1 htg.1 hX1.two) λ_ s2 p=>?_)
   refine xAA p λS2 I2 R2=>?_
   have N2:=(N.stepI I1 (λb q=>(hX b q).1)).stepI I2 (λb q=>(hX b q).1)
   have fin:∀ {ρ5 s5 lo5 H5},Sim C H5 ρ5 s5->Nx _ (LW env) s2 ρ5 s5->Fm C env ρ5 s5 lo5->rC K tgt t (bf ai) n _ lo5 H5 Q->
     codeAny C.M A (.compLoop (.ListComp elt gens sc pos) d x (.ref l.a) env) (mR C env ρ0 s0 ai l Q) s5:=λS5 N5 F5 e5=>
    oA hg ht hc hb htg n hr (aO N5.pre hl1) (N2.trans N5) S5 F5 (K.mono R2 N5.pre N5.imm (λb o q e'=>N5.kp b o e' (hX1 b q).2.1 (λz=>(hX b q).2.2.2 (.inl z))))
     (λb z=>let ⟨o',e'⟩:=K.alive R2 b z;⟨(hX b z).1,N5.own e' (hX1 b z).2.1,(hX b z).2.2⟩) e5
   refine zzB (d3.run (α:=Unit) (ht hr S2 ((F.nextI I1 (λb hw q=>(hX b q).2.2.2 hw)).nextI I2 (λb hw q=>(hX1 b q).2.2.2 hw)) (ru.mono I2.pre I2.imm) q) λS3 N3 F3 q=>zzB (wmN (hc hr S3 F3 q) λok s4 p=>?_))
   obtain⟨S4,N4,q⟩:=p
   have N34:=N3.trans N4.wr
   cases ok with
   |false=>
    rw[if_neg (by decide)]
    exact zzP ⟨rfl,fin S4 N34 (F3.nx N4) q⟩
   |true=>
    rw[if_pos rfl]
    show wpAny C.M A (vU elt gens sc pos d (.ref l.a) env (again (Code.compLoop (elt.ListComp gens sc pos) d x (Value.ref l.a) env))) _ _ s4
    exact hb hr S4 (F3.nx N4) (aO N34.pre hl1) q λS5 N5 F5 q=>zzP ⟨rfl,fin S5 (N34.trans N5) F5 q⟩
theorem jR{K:ItK C}{elt target iter:Expr}{ifs:List Expr}{gens:List Comprehension}{sc:Scope}{pos:Pos}{d:Nat}{tgt:AF}{t:TF}{bf:BF}(hg:gens[d]? =some ⟨target,iter,ifs,0⟩)(hre:gR K)(ht:ALV C r env target tgt) (hc:CnV C r env ifs t) (hb:BV C r env elt gens sc pos d bf) (htg:K.tg target/\K.need<=r){ai:Nat}{l:Lc}(n:Nat){A:Around}{s0 s:Shared}{ρ0 ρ:List Lc}{H:MH}{lo:Lo}{it:K.σ}{x:Value}{X:Addr->Prop}{Q:LK} (hr:Room r A) (hl:ρ[ai]? =some l) (N:Nx ρ0 (LW env) s0 ρ s) (S:Sim C H ρ s) (F:Fm C env ρ s lo)(R:K.rel ρ s it x X) (hX:Apart C env ρ s0 X) (e:rC K tgt t (bf ai) n it lo H Q):codeAny C.M A (.compStart (.ListComp elt gens sc pos) d x (.ref l.a) env) (mR C env ρ0 s0 ai l Q) s:=by
 have L:=oA hg ht hc hb htg n hr hl N S F R hX e
 have hnx:∃ y,K.nx it H y:=by
  cases n with
  |zero=>exact e.elim
  |succ n=>exact⟨_,e⟩
 refine codeAny_of_tree ?_
 rw[Around.under_of_weight (c:=.compStart (.ListComp elt gens sc pos) d x (.ref l.a) env) rfl rfl]
 show wpAny _ _ ((compStart (.ListComp elt gens sc pos) d x (.ref l.a) env).onRaise (λx=>do noteFrame x env;standAt theWindowsPlace)) _ _ s
 refine wpAny_onRaise (wpAny_mono (Q:=λfin s'=>match fin with
   | .done f=>mR C env ρ0 s0 ai l Q (.ok f) s'
   | .again c'=>c'.quiet=true/\codeAny C.M A c' (mR C env ρ0 s0 ai l Q) s') (E:=NoE) ?_ (λ_ _ z=>z) (λ_ _ z=>z.elim))
 unfold compStart
 have hcl:clausesOf (.ListComp elt gens sc pos)=gens:=rfl
 rw[hcl,hg]
 show wpAny _ _ (ask >>=_) _ _ s
 refine zzB (wpAny_askSetting (wpAny_ite ?_))
 split
 ·first
   |exact zzB (zzP (zzP (And.intro rfl L)))
   |exact zzP (And.intro rfl L)
 ·refine zzB (wpAny_rule ?_)
  show wpAny _ _ (standAt iter.pos >>=_) _ _ s
  exact zzB (wpAny_standAt (zzB (hre S hnx R (zzP (And.intro rfl L)))))
theorem aCf{K:ItK C}{ρ2 ρ:List Lc}{s s2:Shared}{lo:Lo}{X:Addr->Prop}(F:Fm C env ρ s lo)(hX:∀ b,X b->s.heap.get? b=none/\¬Own ρ2 b/\C.base.heap.get? b=none):Apart C env ρ2 s X:=λb q=>
 ⟨(hX b q).1,(hX b q).2.1,(hX b q).2.2,λhw=>by refine xE (F.alv b hw) λo e'=>?_;rw[(hX b q).1]at e';cases e'⟩
def bMore(K:ItK C)(fi:IF K)(tgt:AF)(t:TF)(bf:BF):BF:=λai lo H Q=>fi lo H λit H1=>∃ n,rC K tgt t (bf ai) n it lo H1 Q
theorem BV.more{K:ItK C}{elt target iter:Expr}{ifs:List Expr}{gens:List Comprehension}{sc:Scope}{pos:Pos}{d:Nat}{fi:IF K}{tgt:AF}{t:TF}{bf:BF}(hg:gens[d+1]? =some ⟨target,iter,ifs,0⟩)(hre:gR K)(hi:IV K r env iter fi) (ht:ALV C r env target tgt) (hc:CnV C r env ifs t) (hb:BV C r env elt gens sc pos (d+1) bf) (htg:K.tg target/\K.need<=r) (hs:∀ x,foldedSetIterable iter env x=pure x):BV C r env elt gens sc pos d (bMore K fi tgt t bf):=by
 intro A s ρ H lo Q0 ai l Q K' hr S F hl q hK
 unfold vU
 rw[hg]
 refine zzB (wmN (hi hr S F q) λx s1 h=>zzB (wpAny_standAt ?_))
 rw[if_neg (by simp)]
 refine zzB (wpAny_of_eq (hs x) (zzB (wpAny_holding ?_)))
 rw[if_neg (by simp)]
 refine wmN h λy s2 p=>zzB (wpAny_runOwn ?_)
 obtain⟨S2,N2,R2,hX,n,q⟩:=p
 refine codeAny_mono (jR (s0:=s) (ρ0:=ρ) hg hre ht hc hb htg n (A:=A.mark none) hr (aO N2.pre hl) N2.wr S2 (F.nx N2) R2 (aCf (K:=K) (s2:=s2) F hX) q) λrr s3 hL=>?_
 cases rr with
 |ok f=>obtain⟨S3,N3,F3,_,q⟩:=hL;exact hK S3 N3 F3 q
 |error _=>exact hL.elim
end
section
variable {C:Cx}{r:Nat}{env:Env}
theorem aB1{M:Model}{A:Around}{E:Value->Shared->Prop}{s:Shared}{e:Expr}{sc:Scope}{pos:Pos}{newAcc first:Sem Value}{g:Comprehension}{gs:List Comprehension}{use:Option (Value->Sem Unit)}{hid:List Str}{Q:Value->Shared->Prop}(hcl:clausesOf e=g::gs) (hs:∀ x,foldedSetIterable g.iter env x=pure x) (K:kF env sc hid) (hcell:∀ p∈sc.names,p.2= .free->∃ c,env.cells.lookup p.1=some c)(h:wpAny M A first (λx s₁=>wpAny M A (pyIter x) (λit s₂=>wpAny M A newAcc (λacc s₃=> ∀ h₄,h₄.Ns s₃.heap.objs.size (λ_=>none)->Heap.SameBut s₃.heap.objs.size (s₃.heap.push {cls:=.type "dict",data:=.dict #[]}) h₄->
    codeAny M A (.compStart e 0 it acc (fK env sc s₃.heap.objs.size)) (λr s'=>match r with
     | .ok _=>(∃ m,s'.heap.Ns s₃.heap.objs.size m)/\(match use with
      |none=>∀ h',Heap.SameBut s₃.heap.objs.size s'.heap h'->Q acc {s' with heap:=h'}
      |some u=>wpAny M A (u acc) (λ_ s''=>(∃ m,s''.heap.Ns s₃.heap.objs.size m)/\∀ h',Heap.SameBut s₃.heap.objs.size s''.heap h'->Q .none {s'' with heap:=h'}) E s')
     | .error _=>False) {s₃ with heap:=h₄}) E s₂) E s₁) E s):
  wpAny M A (comprehension e sc env pos newAcc false first use) Q E s:=by
 unfold comprehension
 rw[hcl]
 refine zzB (wpAny_mono h (λx s₁ h₁=>zzB (wpAny_standAt (zzB (wpAny_of_eq (hs x) (zzB (wpAny_holding (wpAny_mono h₁ (λit s₂ h₂=>
  wpAny_standIf (zzB (wpAny_mono h₂ (λacc s₃ h₃=>?_) λ_ _ h'=>h'))) λ_ _ h'=>h'))))))) λ_ _ h'=>h')
 have hclo:∀ {Q':List (Str×Addr)->Shared->Prop},Q' (fJ env.cells sc.names []) s₃->wpAny M A (closureFor sc env) Q' E s₃:=by
  intro Q' hq
  unfold closureFor
  refine zzB (i9 (env:=env) _ (λname kind cs=>by cases hkc:kind==NameKind.free<;>simp [hkc]) sc.names [] _ hcell (zzP hq))
 refine zzB (hclo ?_)
 have hnc:∀ x∈sc.names,x.2≠ .cell:=λx hx=>by have:=all_eq_true.mp K.nocell x hx;simpa using this
 refine zzB (wpAny_newFunctionEnv (binds:=[]) hnc (λx hx=>by cases hx) (λh₄ hn₄ hs₄=>?_) K.kind)
 have hc4:=h₃ h₄ hn₄ hs₄
 dsimp only
 have hv:∀ (vs:List (Str×NameKind)),(∀ p∈vs,p∈sc.names)->∀ p∈vs,p.2= .local->(fK env sc s₃.heap.objs.size).kindOf p.1=some .local:=λvs hvs p hp hl=>by
  have h1:=all_eq_true.mp K.hid p (hvs p hp)
  rw[hl]at h1
  simp at h1
  rw[iJ,h1.1]
  rfl
 have hk':(fK env sc s₃.heap.objs.size).scope.kind= .function:=K.kind
 refine wpAny_holding (zzB (wpAny_attempt (wpAny_holding (wpAny_run (codeAny_mono hc4 λr s' hr=>?_)))))
 cases r with
 |error x=>exact hr.elim
 |ok f=>
  refine xA hr λz92 hq=>?_;obtain⟨m,hm⟩:=z92
  cases use with
  |none=>
   refine zzB (wpAny_holding (wpAny_comp_letGo (cenv:=fK env sc s₃.heap.objs.size) hk' _ s' m (hv _ λp hp=>?_) hm λh' m' _ hs'=>zzP (hq h' hs')))
   exact(List.mem_filter.mp (List.mem_reverse.mp hp)).1
  |some u=>
   refine zzB (wpAny_rule (zzB (wpAny_holding (wpAny_mono hq ?_ λ_ _ z=>z))))
   rintro _ s'' ⟨⟨m',hm'⟩,hq'⟩
   refine zzB (wpAny_comp_letGo (cenv:=fK env sc s₃.heap.objs.size) hk' _ s'' m' (hv _ λp hp=>?_) hm' λh' m' _ hs'=>zzP (hq' h' hs'))
   refine Or.elim (mem_append.mp hp) (λz=>?_) λz=>?_
   ·exact(List.mem_filter.mp (List.mem_reverse.mp (List.mem_of_mem_drop z))).1
   ·exact(List.mem_filter.mp (List.mem_reverse.mp (List.mem_of_mem_take z))).1
def mJ(K:ItK C)(hid:List Str)(fi:IF K)(tgt:AF)(t:TF)(bf:BF):EF:=λlo H Q=>fi lo H λit H1=>∃ n,rC K tgt t (bf H1.length) n it (hide hid lo) (H1++[.list []]) λ_ H2=>Q (.ref H1.length) H2
inductive CoEnd(C:Cx)(ρ:List Lc)(s:Shared)(Q0:EK)(x:Value)(L:Addr)(s':Shared):Prop
 |mk {ρ' v H'} (hL:s.heap.get? L=none) (S:Sim C H' ρ' s') (N:Nx ρ (λb=>b=L) s ρ' s') (r:VR ρ' s'.heap x v) (ho: ¬Own ρ' L) (hb:C.base.heap.get? L=none) (hm:∃ m,s'.heap.Ns L m) (q:Q0 v H'):CoEnd C ρ s Q0 x L s'
theorem n9{K:ItK C}{elt target iter:Expr}{ifs:List Expr}{gs:List Comprehension}{sc:Scope}{pos p:Pos}{hid:List Str}{fi:IF K}{tgt:AF}{t:TF}{bf:BF}{use:Option (Value->Sem Unit)}(hsc:kF env sc hid) (hh:(hid.all λx=>sc.names.lookup x != some .free)=true) (hre:gR K) (hi:IV K r env iter fi)(ht:∀ L,ALV C r (fK env sc L) target tgt) (hc:∀ L,CnV C r (fK env sc L) ifs t) (hb:∀ L,BV C r (fK env sc L) elt (⟨target,iter,ifs,0⟩::gs) sc pos 0 bf) (htg:K.tg target/\K.need<=r) (hs:∀ x,foldedSetIterable iter env x=pure x){A:Around}{s:Shared}{ρ:List Lc}{H:MH}{lo:Lo}{Q0:EK}{Q:Value->Shared->Prop} (hr:Room r A) (S:Sim C H ρ s) (F:Fm C env ρ s lo) (q:mJ K hid fi tgt t bf lo H Q0)(hQ:∀ x L s',CoEnd C ρ s Q0 x L s'-> (match use with
    |none=>∀ h',Heap.SameBut L s'.heap h'->Q x {s' with heap:=h'}
    |some u=>wpAny C.M A (u x) (λ_ s''=>(∃ m,s''.heap.Ns L m)/\∀ h',Heap.SameBut L s''.heap h'->Q .none {s'' with heap:=h'}) NoE s')):
  wpAny C.M A (comprehension (.ListComp elt (⟨target,iter,ifs,0⟩::gs) sc pos) sc env p (newList []) false (eval iter env) use) Q NoE s:=by
 have hfc:∀ p∈sc.names,p.2= .free->∃ c,env.cells.lookup p.1=some c:=λp hp hk=>by
  have h:=all_eq_true.mp hsc.free p hp
  rw[hk]at h
  refine gS (F.cl p.1 (.inl (eq_of_beq h))) λc _ _ hc _=>?_
  exact⟨c,hc⟩
 refine aB1 (g:=⟨target,iter,ifs,0⟩) rfl hs hsc hfc (wmN (hi hr S F q) λx s1 hx=>wmN hx λy s2 p=>?_)
 obtain⟨S2,N2,R2,hX,n,q⟩:=p
 rename_i ρ2 X it H1
 refine wpAny_newList ?_ (by rw[sizeLine_eq];decide)
 have S3:=S2.alloc {cls:=.type "list",data:=.seq #[]} (.list []) ⟨rfl,rfl,#[],0,Heap.get?_push_size _ rfl,.nil⟩
 have N3:Nx ρ2 noW s2 _ _:=.alloc {cls:=.type "list",data:=.seq #[]}
 have hl:=S2.last (l:=⟨s2.heap.objs.size,s2.heap.objs.size,none⟩)
 intro h4 hn4 hs4
 have N23:=N2.trans N3
 have keep4:∀ b o,(s2.heap.push {cls:=.type "list",data:=.seq #[]}).get? b=some o->h4.get? b=some o:=λb o e=>by
  rw[hs4.2 b (ne_of_lt (Heap.lt_size e))]
  exact Heap.get?_push_of_some _ e
 have N34:=N3.trans (.ext (k:=s2.toks) keep4)
 have hLf:(s2.heap.push {cls:=.type "list",data:=.seq #[]}).get? (s2.heap.push {cls:=.type "list",data:=.seq #[]}).objs.size=none:=bD _
 refine xA (Fm.comp hsc (λx hx=>by have:=all_eq_true.mp hh x hx;simpa using this) S3 ((F.nx N2).nx N3) hLf hn4 (.ext (k:=s2.toks) keep4)) λF4 hW=>?_
 have hLs:=(cP N23 S3 hLf).1
 refine codeAny_mono (jR (s0:=s) (ρ0:=ρ) (env:=fK env sc (s2.heap.push {cls:=.type "list",data:=.seq #[]}).objs.size) rfl hre (ht _) (hc _) (hb _) htg n hr hl (N2.trans N34).wr (S3.ext (k:=s2.toks) keep4) F4
  (K.mono R2 N3.pre N34.imm (λb o qb e'=>N34.kp b o e' (hX b qb).2.1 (λz=>z))) (λb qb=>?_) q) λrr s5 hL=>?_
 ·refine xE (K.alive R2 b qb) λo' e'=>?_
  refine⟨(hX b qb).1,N34.own e' (hX b qb).2.1,(hX b qb).2.2,λhw=>?_⟩
  refine Or.elim (hW b hw) (λz=>?_) λz=>?_
  ·refine xE (N3.al _ _ e') λo2 e2=>?_
   rw[z,hLf]at e2;cases e2
  ·refine xE (F.alv b z) λo e''=>?_;rw[(hX b qb).1]at e'';cases e''
 ·cases rr with
  |error _=>exact hL.elim
  |ok f=>
   obtain⟨S5,N5,F5,hl5,q5⟩:=hL
   refine xEA F5.ns λm5 hm5 _=>?_
   have fw:=F5.own _ (.inl rfl)
   exact⟨⟨m5,hm5⟩,hQ _ _ s5 ⟨hLs,S5,N5,.ref hl5,fw.1,fw.2,⟨m5,hm5⟩,q5⟩⟩
theorem Sim.sameL{H:MH}{ρ:List Lc}{s:Shared}{h':Heap}{L:Addr}(S:Sim C H ρ s)(hs:Heap.SameBut L s.heap h')(hm:∃ m,s.heap.Ns L m)(ho: ¬Own ρ L)(hb:C.base.heap.get? L=none):Sim C H ρ {s with heap:=h'}/\Imm s.heap h':=by
 refine oC hm λm o es ep g hd _=>?_
 have hi: ¬aV o:=by simp [aV,hd]
 exact⟨S.side (k:=s.toks) hs g hi ho hb,cZ hs g hi⟩
theorem Nx.gone{ρ ρ1:List Lc}{W:Addr->Prop}{s s1:Shared}{h':Heap}{L:Addr}(N1:Nx ρ (λb=>b=L\/W b) s ρ1 s1)(hL:s.heap.get? L=none)(hs':Heap.SameBut L s1.heap h')(im:Imm s1.heap h'):Nx ρ W s ρ1 {s1 with heap:=h'}:=by
 have ne:∀ {b o},s.heap.get? b=some o->b≠L:=λe q=>by rw[q,hL]at e;cases e
 exact⟨N1.pre,N1.new,λb o e hb' hw=>(hs'.2 b (ne e)).trans (N1.kp b o e hb' λq=>q.elim (ne e) hw),N1.imm.trans im,λb o e=>let ⟨o',e'⟩:=N1.al b o e;⟨o',(hs'.2 b (ne e)).trans e'⟩⟩
theorem EV.comp{K:ItK C}{elt target iter:Expr}{ifs:List Expr}{gs:List Comprehension}{sc:Scope}{pos:Pos}{hid:List Str}{fi:IF K}{tgt:AF}{t:TF}{bf:BF}(hsc:kF env sc hid) (hh:(hid.all λx=>sc.names.lookup x != some .free)=true) (hre:gR K) (hi:IV K r env iter fi)(ht:∀ L,ALV C r (fK env sc L) target tgt) (hc:∀ L,CnV C r (fK env sc L) ifs t) (hb:∀ L,BV C r (fK env sc L) elt (⟨target,iter,ifs,0⟩::gs) sc pos 0 bf) (htg:K.tg target/\K.need<=r) (hs:∀ x,foldedSetIterable iter env x=pure x):EV C r env (.ListComp elt (⟨target,iter,ifs,0⟩::gs) sc pos) (mJ K hid fi tgt t bf):=by
 intro A s ρ H lo Q hr S F q
 rw[eval_ListComp]
 refine n9 hsc hh hre hi ht hc hb htg hs hr S F q λx L s1 p h' hs'=>?_
 obtain⟨hL,S1,N1,r1,ho,hb,hm,q⟩:=p
 refine xA (S1.sameL hs' hm ho hb) λS2 im=>?_
 exact⟨S2,(N1.weaken λb q=>.inl q).gone hL hs' im,r1.mono (prefix_refl _) im,q⟩
theorem SV.assignC{K:ItK C}{x:Str}{elt target iter:Expr}{ifs:List Expr}{gs:List Comprehension}{sc:Scope}{pos pos' spos:Pos}{hid:List Str}{fi:IF K}{tgt:AF}{t:TF}{bf:BF}(hk:env.kindOf x=some .local)(hsw:swapsWith (.ListComp elt (⟨target,iter,ifs,0⟩::gs) sc pos) (some (.Name x pos')) spos.line env=pure true)(hsc:kF env sc hid) (hh:(hid.all λx=>sc.names.lookup x != some .free)=true) (hre:gR K) (hi:IV K r env iter fi)(ht:∀ L,ALV C r (fK env sc L) target tgt) (hc:∀ L,CnV C r (fK env sc L) ifs t) (hb:∀ L,BV C r (fK env sc L) elt (⟨target,iter,ifs,0⟩::gs) sc pos 0 bf) (htg:K.tg target/\K.need<=r) (hs:∀ x,foldedSetIterable iter env x=pure x):SV C r env (.Assign [.Name x pos'] (.ListComp elt (⟨target,iter,ifs,0⟩::gs) sc pos) spos) (aZ x (mJ K hid fi tgt t bf)):=by
 intro A s ρ H lo Q hr S F q
 rw[exec_Assign_Name_used _ _ _ _ hsw]
 refine zzB (wpAny_standAt (zzB ?_))
 rw[arm_evalThenUse_ListComp]
 refine zzB (n9 hsc hh hre hi ht hc hb htg hs hr S F q λu L s1 p=>?_)
 obtain⟨hL,S1,N1,r1,ho,hbL,hm,q⟩:=p
 rename_i ρ2 v2 H2
 have F1:=F.next N1 (λb hb e=>by subst e;refine xE (F.alv _ hb) λo e'=>?_;rw[hL]at e';cases e')
 have hLW: ¬Wr env L:=λhw=>by refine xE (F.alv _ hw) λo e'=>?_;rw[hL]at e';cases e'
 show wpAny C.M A (PySem.assign (.Name x pos') env u) _ _ s1
 refine wpAny_assign_Name (fP S1 F1 r1 (qW (.inl hk)) λs2 S2 N2 F2=>?_)
 refine lN hm λm o es ep g hr'=>?_
 have hm2:∃ m,s2.heap.Ns L m:=⟨m,o,es,ep,N2.kp L o g ho hLW,hr'⟩
 refine⟨hm2,λh' hs'=>zzP (zzP ?_)⟩
 refine xA (S2.sameL hs' hm2 ho hbL) λS3 im=>?_
 have N3:NxI ρ2 (λb=>b=L) s2 ρ2 {s2 with heap:=h'}:=⟨prefix_refl _,λl hl=>by simp at hl,λb o e _ hne=>(hs'.2 b hne).trans e,im,λb o e hne=>⟨o,(hs'.2 b hne).trans e⟩⟩
 exact⟨S3,((N1.weaken λb q=>.inl q).trans (N2.weaken λb q=>.inr q)).gone hL hs' im,F2.nextI N3 (λb hb e=>by subst e;exact hLW hb),.next,q⟩
end
section
variable {C:Cx}{r:Nat}{env:Env}
def Sg(M:Model)(A:Around)(c:Code)(t:Sem PySem.Fin)(fs:List Frame)(Φ:End->Shared->Prop)(s:Shared):Prop:=∀ Γ p,Γ.code=c->Γ.Woken A->∃ e s',Runs M Γ p t fs s e s'/\Φ e s'
section
variable {M:Model}{A:Around}{c:Code}{fs:List Frame}{Φ:End->Shared->Prop}{s:Shared}
theorem fZ{α:Type}{m:Sem α}{K:α->Sem PySem.Fin}{H:Value->Sem PySem.Fin}{gd lv}(h:wpAny M (A.over c fs) m (λa s'=>Sg M A c (K a) fs Φ s') (λx s'=>Sg M A c (H x) fs Φ s') s):Sg M A c (m.wrap K H gd lv) fs Φ s:=by
 rintro Γ p rfl hΓ
 exact runs_wrap_of_wp K H gd lv m (h (Γ.over fs) p (hΓ.over fs)) (λa p' s' h'=>h' Γ p' rfl hΓ) (λx p' s' h'=>h' Γ p' rfl hΓ)
theorem yE{p':Pos}{k:Unit->Sem PySem.Fin}(h:Sg M A c (k ()) fs Φ s):Sg M A c (.at p' k) fs Φ s:=fZ (m:=standAt p') (K:=k) (H:=.raise) (gd:=id) (lv:=id) (wpAny_standAt h)
theorem yC{l:List Value}{k:Unit->Sem PySem.Fin}(h:Sg M A c (k ()) fs Φ s):Sg M A c (.point l k) fs Φ s:=fZ (m:=point) (K:=k) (H:=.raise) (gd:=id) (lv:=λ_=>l) (wpAny_point h)
theorem aC9{c':Code}{h g l}{k:Result->Sem PySem.Fin}(hc:∀ p,Sg M A c' (M.den c') (.ret k h g l c p []::fs) Φ s):Sg M A c (.call c' h g l k) fs Φ s:=by
 rintro Γ p rfl hΓ
 refine gZ (hc p (Γ.goto c') p rfl (hΓ.goto c')) λe s' hr he=>?_
 exact⟨e,s',runs_call_seg hr,he⟩
theorem aC8{k h g l c₁ p₁ kp}(r:Result)(hk:Sg M A c₁ (k r) fs Φ s):Sg M A c (leafOf r) (.ret k h g l c₁ p₁ kp::fs) Φ s:=by
 rintro Γ p rfl hΓ
 refine gZ (hk (Γ.goto c₁) p₁ rfl (hΓ.goto c₁)) λe s' hr he=>?_
 exact⟨e,s',Runs.pop r hr,he⟩
theorem lS{c':Code}(hq:c'.quiet=true)(hc:Sg M A c' (M.den c') fs Φ s):Sg M A c (.pure (.again c')) fs Φ s:=by
 rintro Γ p rfl hΓ
 refine gZ (hc (Γ.goto c') p rfl (hΓ.goto c')) λe s' hr he=>?_
 exact⟨e,s',Runs.head (c₁:=c') (λ_ _ x=>.again hq x) hr,he⟩
theorem yD(r:Result)(h:Φ (.ret r) s):Sg M A c (leafOf r) [] Φ s:=by
 rintro Γ p rfl _
 exact⟨.ret r,s,Runs.leaf r,h⟩
theorem x8{v g l}{k:Resume->Sem PySem.Fin}(hfs:splitAtGen fs=none)(h:∀ p,Φ (.susp v g l k c p fs) s):Sg M A c (.yield v g l k) fs Φ s:=by
 rintro Γ p rfl _
 exact⟨_,s,Runs.yield' fs hfs,h p⟩
def aCn(M:Model)(A:Around)(Φ:End->Shared->Prop)(r:Resume)(s:Shared):GenState->Prop
 | .fresh c=>r= .send .none/\Sg M A c (M.den c) [] Φ s
 | .suspended k₀ _ c _ fs _=>Sg M A c (k₀ r) fs Φ s
 |_=>False
theorem sO{E:Value->Shared->Prop}{g:Nat}{gs:GenState}{r:Resume}{l:List Value}{α:Type}{k:GenResult->Sem α}{Q:α->Shared->Prop}(hg:s.gens[g]? =some gs)(hgo:aCn M A Φ r (s.setGen g .running) gs)(hq:∀ e s₁,Φ e s₁->e.quiet=true/\wpAny M A (k e.result) Q E (s₁.setGen g e.genState)):wpAny M A (.resume g r l k) Q E s:=by
 intro Γ p hΓ
 rw[Sem.wp_resume]
 have hB:∀ c,(Γ.wake c p).Woken A:=λc=>hΓ.wake c p
 cases gs with
 |fresh c=>
  refine xA hgo λz93 hs=>?_;clear hgo;subst z93
  refine gZ (hs (Γ.wake c p) p rfl (hB c)) λe₁ s₁ hr he=>?_
  exact⟨_,_,by unfold Wakes;rw[hg];exact⟨e₁,s₁,hr,(hq e₁ s₁ he).1,rfl,rfl⟩,(hq e₁ s₁ he).2 Γ p hΓ⟩
 |suspended k₀ l₀ c₀ p₀ fs₀ cl=>
  refine gZ (hgo (Γ.wake c₀ p) p₀ rfl (hB c₀)) λe₁ s₁ hr he=>?_
  exact⟨_,_,by unfold Wakes;rw[hg];exact⟨e₁,s₁,hr,(hq e₁ s₁ he).1,rfl,rfl⟩,(hq e₁ s₁ he).2 Γ p hΓ⟩
 |running=>exact hgo.elim
 |finished=>exact hgo.elim
end
section
variable {M:Model}{A:Around}{c:Code}{fs:List Frame}{Φ:End->Shared->Prop}{s:Shared}{K:Flow->Sem PySem.Fin}{H:Value->Sem PySem.Fin}{gd:Bool->Bool}{lv:List Value->List Value}
theorem cK{st:Stmt}{rest:List Stmt}(h:Sg M A c ((exec st env).wrap (λf=>match f with | .next=>(execs rest env).wrap K H gd lv |f=>K f) H gd lv) fs Φ s):Sg M A c ((execs (st::rest) env).wrap K H gd lv) fs Φ s:=by rw[execs_cons_wrap];exact h
theorem iN{e:Expr}{ypos pos:Pos}(hfs:splitAtGen fs=none)(hgd:gd false=false)(h:wpAny M (A.over c fs) (eval e env) (λv s'=>∀ l k p,k (.send .none)=K .next->Φ (.susp v false l k c p fs) s') (λx s'=>Sg M A c (H x) fs Φ s') s) (hco:env.scope.isCoroutine=false) (hi:interactive env=false):Sg M A c ((exec (.Expr (.Yield (some e) ypos) pos) env).wrap K H gd lv) fs Φ s:=by
 rw[exec_Expr env _ pos hi rfl]
 show Sg M A c (.at pos λ_=>((eval e env >>=λv=>(standAt ypos >>=λ_=>yieldOut env v)) >>=λx=>
  dropValue (.Yield (some e) ypos) pos x).wrap K H gd lv) fs Φ s
 have hy:∀ v,yieldOut env v=yieldValue v:=λv=>by simp only[yieldOut,hco,false_eq_true,if_false]
 simp only[hy]
 refine yE ?_
 rw[Sem.bind_eq_wrap',Sem.bind_eq_wrap',Sem.wrap_wrap,Sem.wrap_wrap]
 refine fZ (wpAny_mono h (λv s' h'=>?_) λ_ _ x=>x)
 refine yE ?_
 have key:=λl k p hk=>h' l k p hk
 rw[<-hgd]at key
 exact x8 hfs λp=>key _ _ p rfl
theorem sg_If{test:Expr}{b1 b2:List Stmt}{pos:Pos}(h:wpAny M (A.over c fs) (isTrue test env (eval test env)) (λb s'=>if b=true then Sg M A c ((execs b1 env).wrap K H gd lv) fs Φ s' else Sg M A c ((execs b2 env).wrap K H gd lv) fs Φ s') (λx s'=>Sg M A c (H x) fs Φ s') s):Sg M A c ((exec (.If test b1 b2 pos) env).wrap K H gd lv) fs Φ s:=by
 rw[exec_If]
 show Sg M A c (.at _ λ_=>(isTrue test env (eval test env) >>=λb=>if b=true then execs b1 env else execs b2 env).wrap K H gd lv) fs Φ s
 refine yE ?_
 rw[Sem.bind_eq_wrap',Sem.wrap_wrap]
 refine fZ (wpAny_mono h (λb s' hb=>?_) λ_ _ x=>x)
 cases b with
 |true=>exact hb
 |false=>exact hb
end
end
section
variable {C:Cx}{r:Nat}{env:Env}
theorem lB{prog:Program}{w:World}{A:Around}{E:Value->Shared->Prop}{s:Shared}{it l:Addr}{i:Nat}{items}{Q:Option Value->Shared->Prop}(hh:A.handled=none)(hit:s.heap.IsListIter it l i) (hl:s.heap.IsList l items) (hx:items[i]? =none)(hQ:∀ h' o',h'.get? it=some o'->¬aV o'->Heap.ExtBut it s.heap h'->Q none {s with heap:=h'}):wpAny (model prog w) A (pyNext (.ref it)) Q E s:=by
 refine cX (id hit) λo ho hc hd=>?_
 refine t9 hl λol hol _ nl hdl=>?_
 unfold pyNext
 refine zzB (wpAny_attempt (wpAny_callSpecial?_slot (name:=Str.ofString "__next__") hit.typeIs slot_listiter_next
  (wpAny_call_entry slot_listiter_next hit.typeIs entry_listiter_next ?_ (args_listiter_next _))))
 show wpAny _ _ (field (.ref it) 0 >>=_) _ _ s
 refine zzB (wpAny_field ho hd (x:=.ref l) rfl ?_)
 show wpAny _ _ (if (Value.ref l==Value.none)=true then _ else _) _ _ s
 rw[if_neg (show¬((Value.ref l==Value.none)=true) from Bool.false_ne_true)]
 show wpAny _ _ (field (.ref it) 1 >>=_) _ _ s
 refine zzB (wpAny_field ho hd (x:=.int i 0) rfl ?_)
 show wpAny _ _ (seqItems? (.ref l) >>=_) _ _ s
 refine zzB (wpAny_seqItems hol hdl ?_)
 simp only[toNat_natCast,hx]
 refine zzB (wpAny_rule (zzB (wpAny_setField ho hd (by simp) ?_)))
 show wpAny _ _ (newExc (.type "StopIteration") [] >>=_) _ _ _
 refine zzB ?_
 simp only[newExc,newTuple]
 refine zzB (wpAny_newObj_type ?_ (by size_fits))
 refine zzB (m:=firstArgMember _ _) (wpAny_of_eq (a:=Value.none) (by first |rfl | (simp only[firstArgMember];rfl)) ?_)
 refine wpAny_newObj_type ?_ (by size_fits)
 delta raiseNew;dsimp only
 refine zzB (wpAny_handled ?_)
 rw[show A.in1.handled=none from hh]
 refine zzB (zzP (wpAny_throw ?_))
 refine zzB (wpAny_isInstance (T:="StopIteration") (b:=true) ⟨_,Heap.get?_push_size _ rfl,rfl⟩ isSubtype_stop ?_)
 have hd':=Obj.data_mapFields hd (·.setIfInBounds 0 Value.none)
 refine zzP (hQ _ _ (Heap.get?_push_of_some _ (Heap.get?_push_of_some _ (Heap.get?_update_self _ ho (Obj.isFreed_of_fields hd')))) ?_ (((Heap.SameBut.update ..).extBut.push _).push _))
 have hc':=(Obj.cls_mapFields o (·.setIfInBounds 0 Value.none)).trans hc
 simp [aV,hd',hc']
def MO.iv:MO->Option (Nat×Nat) | .itr (some p)=>some p |_=>none
theorem iv_mo{m:Option MO}{p:Nat×Nat}(e:m.bind MO.iv=some p):m=some (.itr (some p)):=by
 refine xEA (bind_eq_some_iff.mp e) λm z94 h2=>?_;subst z94
 cases m with
 |itr o=>cases o with
  |none=>cases h2
  |some q=>cases h2;rfl
 |_=>cases h2
inductive ItrN(C:Cx)(H:MH)(ρ:List Lc)(s:Shared)(j ci k:Nat)(vs:List V):Option Value->Shared->Prop
 |item {u v s'} (hv:vs[k]? =some v) (S:Sim C (H.set j (.itr (some (ci,k+1)))) ρ s') (N:∀ W,Nx ρ W s ρ s') (r:VR ρ s'.heap u v):ItrN C H ρ s j ci k vs (some u) s'
 |done {s'} (hv:vs[k]? =none) (S:Sim C (H.set j (.itr none)) ρ s') (N:∀ W,Nx ρ W s ρ s'):ItrN C H ρ s j ci k vs none s'
theorem aAh{A:Around}{s:Shared}{ρ:List Lc}{H:MH}{j ci k:Nat}{l:Lc}{vs:List V}(hr:Room r A)(S:Sim C H ρ s)(hl:ρ[j]? =some l)(hH:H[j]? =some (.itr (some (ci,k))))(hv:lst H (.ref ci)=some vs):wpAny C.M A (pyNext (.ref l.a)) (ItrN C H ρ s j ci k vs) NoE s:=by
 refine nJ (S.objs j _ l hH hl) λg1 g2 li hli hit=>?_
 refine bL (b5 S (.ref hli) hv) λad xs q1 q2 q3=>?_
 cases q1
 refine cX (id hit) λo h2 h3 h4=>?_
 have hi: ¬aV o:=pG h3 h4
 cases hvk:vs[k]? with
 |some v=>
  refine xEA (q3.get hvk) λu hu ru=>?_
  refine wpAny_pyNext_list_item hit q2 (by simpa using hu) λh' hit2 hs=>?_
  have st:=S.put (k:=s.toks) (h':=h') (m':=.itr (some (ci,k+1))) hl hH g1 h2 hi hs (let ⟨o2,e2,_⟩:=hit2;⟨o2,e2⟩) (by intro _ h;cases h) (by intro _ h;cases h) λim=>⟨g1,g2,li,hli,hit2⟩
  exact .item hvk st.1 st.2 (ru.nx (st.2 noW))
 |none=>
  refine lB hr.1 hit q2 (Array.getElem?_eq_none (by rw[q3.sz];exact getElem?_eq_none_iff.mp hvk)) λh' o' e' hi' he=>?_
  have im:Imm s.heap h':=λb x e i=>by
   by_cases q:b=l.a
   ·subst q;rw[h2]at e;cases e;exact absurd i hi
   ·exact he b x q e
  refine .done hvk (S.upd hl hH (by intro _ h;cases h) (λb o e hb=>he b o (λq=>hb (.inl q)) e) im rfl rfl ⟨g1,g2,o',e',hi'⟩ (by intro _ h;cases h))
   λW=>⟨prefix_refl _,λl hl=>by simp at hl,λb x e ho _=>he b x (λq=>ho (q▸⟨l,mem_of_getElem? hl,.inl rfl⟩)) e,im,λb x e=>?_⟩
  by_cases q:b=l.a
  ·rw[q];exact⟨o',e'⟩
  ·exact⟨x,he b x q e⟩
structure GSh where
 fd:FuncData
 fa:Addr
 pre:List Stmt
 target:Expr
 iter:Expr
 cond:Expr
 ye:Expr
 cond2:Expr
 ye2:Expr
 s1:Stmt
 s3:Stmt
 s2:List Stmt
 p1:Pos
 p2:Pos
 p3:Pos
 p4:Pos
 p5:Pos
 p6:Pos
 p7:Pos
namespace GSh
variable (G:GSh)
def yst:Stmt:=.Expr (.Yield (some G.ye) G.p1) G.p2
def yst2:Stmt:=.Expr (.Yield (some G.ye2) G.p3) G.p4
def lb:List Stmt:=[.If G.cond (G.s1::G.yst::G.s2) [] G.p5,G.s3]
def if2:Stmt:=.If G.cond2 [G.yst2] [] G.p6
def tail:List Stmt:=[.For G.target G.iter G.lb [] G.p7,G.if2]
def body:List Stmt:=G.pre++G.tail
def envL(L:Addr):Env:=callEnvC G.fd L G.fa
def Kf:Flow->Sem PySem.Fin:=λf=>.pure (.done (.ret (match f with | .ret v=>v |_=>.none)))
def Hf(env:Env):Value->Sem PySem.Fin:=λe=>(leaving env e).wrap (λ_=>.raise e) .raise id id
def Ka(env:Env):Flow->Sem PySem.Fin:=λf=>match f with | .next=>(execs [G.if2] env).wrap Kf (Hf env) id id |f=>Kf f
def fs1(env:Env)(p:Pos):List Frame:=[.ret (λr=>((match r with | .ok f=>(.pure f:Sem Flow) | .error e=>.raise e).onRaise fun(x:Value)=>do
    if (<-field x 1)==Value.none then unsupported "frame.own-activation:exception-without-traceback"
    setFlight x env.frame).wrap (G.Ka env) (Hf env) id id) none false [] (.func G.body env) p []]
def loopC(env:Env)(x:Value):Code:=.forLoop G.target x G.lb [] env
def Kt(env:Env)(x:Value):Flow->Sem PySem.Fin:=λf=>match f with
 | .next | .cont=>.pure (.again (G.loopC env x))
 | .brk=>.pure (.done .next)
 | .ret v=>.pure (.done (.ret v))
def Ht(env:Env):Value->Sem PySem.Fin:=λe=>(do noteFrame e env;theTreesLotGoes e:Sem Unit).wrap (λ_=>.raise e) .raise id id
def K1(env:Env)(x:Value):Flow->Sem PySem.Fin:=λf=>match f with | .next=>(execs [G.s3] env).wrap (G.Kt env x) (Ht env) id id |f=>G.Kt env x f
def T1(env:Env)(x:Value):Sem PySem.Fin:=(execs G.s2 env).wrap (G.K1 env x) (Ht env) id id
end GSh
theorem dK{M:Model}{A:Around}{c:Code}{fs:List Frame}{Φ:End->Shared->Prop}{s:Shared}{α β:Type}{m:Sem α}{f:α->Sem β}{K:β->Sem PySem.Fin}{H:Value->Sem PySem.Fin}{gd:Bool->Bool}{lv:List Value->List Value}(h:wpAny M (A.over c fs) m (λa s'=>Sg M A c ((f a).wrap K H gd lv) fs Φ s') (λx s'=>Sg M A c (H x) fs Φ s') s):Sg M A c ((m >>=f).wrap K H gd lv) fs Φ s:=by
 rw[Sem.bind_eq_wrap',Sem.wrap_wrap]
 exact fZ h
theorem fA{K:Flow->Sem PySem.Fin}{H:Value->Sem PySem.Fin}:∀ (a b:List Stmt),(execs (a++b) env).wrap K H id id=(execs a env).wrap (λf=>match f with | .next=>(execs b env).wrap K H id id |f=>K f) H id id
 | [],b=>rfl
 |st::a,b=>by
  rw[cons_append,execs_cons_wrap,execs_cons_wrap]
  refine Sem.wrap_congr _ _ _ (λf=>?_) (λ_=>rfl)
  cases f with
  |next=>exact fA a b
  |_=>rfl
inductive jT where
 |yl (it:Nat) (lo:Lo) (v:V)
 |yr (lo:Lo) (v:V)
 |done
structure GFn where
 pre:SF
 it:EF
 tgt:AF
 fc:TF
 f1:SF
 fy:EF
 f2:SF
 f3:SF
 fc2:TF
 fy2:EF
namespace GFn
variable (g:GFn)
def tail(lo:Lo)(H:MH)(Q:jT->MH->Prop):Prop:=g.fc2 lo H λb H2=>bif b then g.fy2 lo H2 λv H3=>Q (.yr lo v) H3 else Q .done H2
def nextK(k:Lo->MH->Prop):SK:=λfl lo H=>match fl with | .next=>k lo H |_=>False
def loopN:Nat->Nat->Lo->MH->(jT->MH->Prop)->Prop
 |0,_,_,_,_=>False
 |n+1,it,lo,H,Q=>Lf (H[it]?.bind MO.iv) λp=>Lf (lst H (.ref p.1)) λvs=>match vs[p.2]? with
  |some v=>g.tgt v lo (H.set it (.itr (some (p.1,p.2+1)))) λlo1 H1=>g.fc lo1 H1 λb H2=>
    bif b then g.f1 lo1 H2 (nextK λlo2 H3=>g.fy lo2 H3 λv H4=>Q (.yl it lo2 v) H4)
    else g.f3 lo1 H2 (nextK λlo2 H3=>loopN n it lo2 H3 Q)
  |none=>g.tail lo (H.set it (.itr none)) Q
def loop(it:Nat)(lo:Lo)(H:MH)(Q:jT->MH->Prop):Prop:=∃ n,g.loopN n it lo H Q
def start(lo:Lo)(H:MH)(Q:jT->MH->Prop):Prop:=g.pre lo H (nextK λlo1 H1=>g.it lo1 H1 λa H2=>Lf a.rf λci=>(∃ vs,lst H2 (.ref ci)=some vs)/\g.loop H2.length lo1 (H2++[.itr (some (ci,0))]) Q)
def more(it:Nat)(lo:Lo)(H:MH)(Q:jT->MH->Prop):Prop:=g.f2 lo H (nextK λlo1 H1=>g.f3 lo1 H1 (nextK λlo2 H2=>g.loop it lo2 H2 Q))
end GFn
structure GV(C:Cx)(r:Nat)(G:GSh)(g:GFn)(env:Env):Prop where
 pre:SVs C r env G.pre g.pre
 it:EV C r env G.iter g.it
 tgt:AV C r env G.target g.tgt
 fc:TV C r env G.cond g.fc
 f1:SV C r env G.s1 g.f1
 fy:EV C r env G.ye g.fy
 f2:SVs C r env G.s2 g.f2
 f3:SV C r env G.s3 g.f3
 fc2:TV C r env G.cond2 g.fc2
 fy2:EV C r env G.ye2 g.fy2
 hs:∀ x,foldedSetIterable G.iter env x=pure x
 co:env.scope.isCoroutine=false
 ia:interactive env=false
inductive GΦ(C:Cx)(G:GSh)(env:Env)(ρ0:List Lc)(s0:Shared)(Q:jT->MH->Prop):End->Shared->Prop
 |yl {ρ1 H1 it lo v li u l k p p' s'} (S:Sim C H1 ρ1 s') (N:Nx ρ0 (Wr env) s0 ρ1 s') (hk:k (.send .none)=G.T1 env (.ref li.a)) (hli:ρ1[it]? =some li) (r:VR ρ1 s'.heap u v) (F:Fm C env ρ1 s' lo) (q:Q (.yl it lo v) H1):
   GΦ C G env ρ0 s0 Q (.susp u false l k (G.loopC env (.ref li.a)) p (G.fs1 env p')) s'
 |yr {ρ1 H1 lo v u l k p s'} (S:Sim C H1 ρ1 s') (N:Nx ρ0 (Wr env) s0 ρ1 s') (hk:k (.send .none)=GSh.Kf .next) (r:VR ρ1 s'.heap u v) (F:Fm C env ρ1 s' lo) (q:Q (.yr lo v) H1):GΦ C G env ρ0 s0 Q (.susp u false l k (.func G.body env) p []) s'
 |done {ρ1 H1 s'} (S:Sim C H1 ρ1 s') (N:Nx ρ0 (Wr env) s0 ρ1 s') (o:∃ o,s'.heap.get? env.locals=some o/\¬aV o) (q:Q .done H1):GΦ C G env ρ0 s0 Q (.ret (.ok (.ret .none))) s'
theorem Room.overF{A:Around}{b:List Stmt}{e:Env}(hr:Room (r+1) A):Room r (A.over (.func b e) []):=by
 refine xAA hr λh1 h2 h3=>?_
 have w1:(Code.func b e).weight=1:=rfl
 have w2:(Code.func b e).cUnits=3:=rfl
 refine⟨h1,?_,?_⟩
 ·show A.depth+0+(Code.func b e).weight+10*r<=700
  rw[w1];exact A34 h2
 ·show A.units+0+(Code.func b e).cUnits+40*r<=8000
  rw[w2];exact A35 h3
theorem Room.overL{A:Around}{G:GSh}{x:Value}{e:Env}{p:Pos}(hr:Room (r+1) A):Room r (A.over (G.loopC e x) (G.fs1 e p)):=by
 refine xAA hr λh1 h2 h3=>?_
 refine⟨h1,?_,?_⟩
 ·show A.depth+(1+0)+0+10*r<=700
  exact A36 h2
 ·show A.units+(3+0)+0+40*r<=8000
  exact A37 h3
theorem Fm.locals{ρ:List Lc}{s:Shared}{lo:Lo}(F:Fm C env ρ s lo):∃ o,s.heap.get? env.locals=some o/\¬aV o:=by
 refine xEA F.ns λm z95 _=>?_;obtain⟨o,es,ep,g,hd,_⟩:=z95
 exact⟨o,g,by unfold aV;rw[hd];exact id⟩
theorem aAo{G:GSh}{g:GFn}(V:GV C r G g env){A:Around}{s0 s:Shared}{ρ0 ρ:List Lc}{H:MH}{lo:Lo}{Q:jT->MH->Prop}(hr:Room (r+1) A)(N:Nx ρ0 (Wr env) s0 ρ s)(S:Sim C H ρ s)(F:Fm C env ρ s lo)(e:g.tail lo H Q):Sg C.M A (.func G.body env) ((execs [G.if2] env).wrap GSh.Kf (GSh.Hf env) id id) [] (GΦ C G env ρ0 s0 Q) s:=cK (sg_If (TV.run V.fc2 hr.overF S F e λ{b s1 _ _} S1 N1 e=>by
  cases b with
  |true=>
   rw[if_pos rfl]
   exact cK (iN rfl rfl (EV.run V.fy2 hr.overF S1 (F.nx N1) e λS2 N2 r2 q l k p hk=>.yr S2 ((N.trans N1.wr).trans N2.wr) hk r2 ((F.nx N1).nx N2) q) V.co V.ia)
  |false=>
   rw[if_neg (by decide)]
   exact yD (.ok (.ret .none)) (.done S1 (N.trans N1.wr) (F.nx N1).locals e)))
theorem yA{A:Around}{st:Stmt}{rest:List Stmt}{f:SF}{k:Lo->MH->Prop}{c:Code}{fs:List Frame}{Φ:End->Shared->Prop}{K:Flow->Sem PySem.Fin}{Hh:Value->Sem PySem.Fin}{s:Shared}{ρ:List Lc}{H:MH}{lo:Lo}(V:SV C r env st f)(hr:Room r (A.over c fs))(S:Sim C H ρ s)(F:Fm C env ρ s lo)(e:f lo H (GFn.nextK k))(h:∀ {s1 ρ1 H1 lo1},Sim C H1 ρ1 s1->Nx ρ (Wr env) s ρ1 s1->Fm C env ρ1 s1 lo1->k lo1 H1->Sg C.M A c ((execs rest env).wrap K Hh id id) fs Φ s1):Sg C.M A c ((execs (st::rest) env).wrap K Hh id id) fs Φ s:=cK (fZ (wmN (V hr S F e) λfw s1 p=>by
  obtain⟨S1,N1,F1,r1,q⟩:=p
  cases r1 with
  |next=>exact h S1 N1 F1 q
  |brk=>exact q.elim
  |cont=>exact q.elim
  |ret _=>exact q.elim))
theorem x9{A:Around}{st:List Stmt}{f:SF}{k:Lo->MH->Prop}{c:Code}{fs:List Frame}{Φ:End->Shared->Prop}{K:Flow->Sem PySem.Fin}{Hh:Value->Sem PySem.Fin}{s:Shared}{ρ:List Lc}{H:MH}{lo:Lo}(V:SVs C r env st f)(hr:Room r (A.over c fs))(S:Sim C H ρ s)(F:Fm C env ρ s lo)(e:f lo H (GFn.nextK k))(h:∀ {s1 ρ1 H1 lo1},Sim C H1 ρ1 s1->Nx ρ (Wr env) s ρ1 s1->Fm C env ρ1 s1 lo1->k lo1 H1->Sg C.M A c (K .next) fs Φ s1):Sg C.M A c ((execs st env).wrap K Hh id id) fs Φ s:=fZ (wmN (V hr S F e) λfw s1 p=>by
  obtain⟨S1,N1,F1,r1,q⟩:=p
  cases r1 with
  |next=>exact h S1 N1 F1 q
  |brk=>exact q.elim
  |cont=>exact q.elim
  |ret _=>exact q.elim)
theorem mC{G:GSh}{g:GFn}(V:GV C r G g env){it:Nat}{li:Lc}{p:Pos}:∀ (n:Nat){A:Around}{s0 s:Shared}{ρ0 ρ:List Lc}{H:MH}{lo:Lo}{Q:jT->MH->Prop},Room (r+1) A->Nx ρ0 (Wr env) s0 ρ s->Sim C H ρ s->Fm C env ρ s lo->ρ[it]? =some li-> g.loopN n it lo H Q->Sg C.M A (G.loopC env (.ref li.a)) (C.M.den (G.loopC env (.ref li.a))) (G.fs1 env p) (GΦ C G env ρ0 s0 Q) s
 |0,_,_,_,_,_,_,_,_,_,_,_,_,_,e=>e.elim
 |n+1,A,s0,s,ρ0,ρ,H,lo,Q,hr,N,S,F,hli,e=>by
  show Sg C.M A _ ((forTurn G.target (.ref li.a) G.lb [] env).onRaise (λx=>do noteFrame x env;theTreesLotGoes x)) _ _ s
  rw[Sem.onRaise_eq_wrap]
  have eH:(λe=>(do noteFrame e env;theTreesLotGoes e:Sem Unit).bind λ_=>(.raise e:Sem PySem.Fin))=GSh.Ht env:=by
   funext e
   exact Sem.bind_eq_wrap _ _
  rw[eH]
  unfold forTurn
  refine dK (wpAny_standAt ?_)
  refine e.elim λck hH e=>e.elim λvs hv e=>?_
  have hH:=iv_mo hH
  refine dK (wpAny_onRaise (wmN (aAh (r:=r) (A:=A.over (G.loopC env (.ref li.a)) (G.fs1 env p)) hr.overL S hli hH hv) λo s1 m1=>?_))
  cases m1 with
  |item hvk S1 N1 ru=>
   rw[hvk]at e
   obtain⟨_,_,lc,_,oi,hoi,hci,_⟩:=S1.objs it _ li (by rw[getElem?_set_self (List.getElem?_eq_some_iff.mp hH).1]) hli
   show Sg C.M A _ ((letOwnedTupleGo G.target (.ref li.a) _ >>=λ_=>(assign G.target env _ >>=λ_=>(execs G.lb env >>=λf=>match f with
    | .next | .cont=>again (.forLoop G.target (.ref li.a) G.lb [] env)
    | .brk=>pure (.done .next)
    | .ret v=>pure (.done (.ret v))))).wrap .pure (GSh.Ht env) id id) _ _ s1
   refine dK (iI (T:="list_iterator") hoi hci (by decide) (dK (d3.run (α:=Unit) (V.tgt hr.overL S1 (F.nx (N1 _)) ru e) λ{_ s2 _ _ _} S2 N2 F2 e=>?_)))
   rw[Sem.bind_eq_wrap',Sem.wrap_wrap]
   refine(congrArg (λt=>Sg C.M A (G.loopC env (.ref li.a)) t (G.fs1 env p) (GΦ C G env ρ0 s0 Q) s2) (Sem.wrap_congr (K':=G.Kt env (.ref li.a)) (H':=GSh.Ht env) (execs G.lb env) _ _ (λf=>by cases f<;>rfl) (λ_=>rfl))).mpr ?_
   show Sg C.M A _ ((execs G.lb env).wrap (G.Kt env (.ref li.a)) (GSh.Ht env) id id) _ _ s2
   have N02:=(N.trans (N1 _)).trans N2
   have hli2:=aO N2.pre hli
   refine cK (sg_If (TV.run V.fc hr.overL S2 F2 e λ{b s3 _ _} S3 N3 e=>?_))
   cases b with
   |true=>
    rw[if_pos rfl]
    exact yA V.f1 hr.overL S3 (F2.nx N3) e λS4 N4 F4 e=>cK (iN rfl rfl (EV.run V.fy hr.overL S4 F4 e λS5 N5 r5 q l k p' hk=>
     .yl S5 (((N02.trans N3.wr).trans N4).trans N5.wr) hk (aO N5.pre (aO N4.pre (aO N3.pre hli2))) r5 (F4.nx N5) q) V.co V.ia)
   |false=>
    rw[if_neg (by decide)]
    exact yA V.f3 hr.overL S3 (F2.nx N3) e λS4 N4 F4 e=>lS rfl (mC V n hr ((N02.trans N3.wr).trans N4) S4 F4 (aO N4.pre (aO N3.pre hli2)) e)
  |done hvk S1 N1=>
   rw[hvk]at e
   show Sg C.M A _ (.pure (.again (.block [] env))) _ _ s1
   refine lS rfl ?_
   show Sg C.M A (.block [] env) (leafOf (.ok .next)) _ _ s1
   exact aC8 (.ok .next) (aAo V hr (N.trans (N1 _)) S1 (F.nx (N1 _)) e)
theorem aAx{G:GSh}{g:GFn}(V:GV C r G g env){it:Nat}{li:Lc}{p:Pos}{A:Around}{s0 s:Shared}{ρ0 ρ:List Lc}{H:MH}{lo:Lo}{Q:jT->MH->Prop}(hr:Room (r+1) A)(N:Nx ρ0 (Wr env) s0 ρ s)(S:Sim C H ρ s)(F:Fm C env ρ s lo)(hli:ρ[it]? =some li)(e:g.more it lo H Q):Sg C.M A (G.loopC env (.ref li.a)) (G.T1 env (.ref li.a)) (G.fs1 env p) (GΦ C G env ρ0 s0 Q) s:=x9 V.f2 hr.overL S F e λS1 N1 F1 e=>yA V.f3 hr.overL S1 F1 e λS2 N2 F2 e=>by
  refine xE e λn e=>?_
  exact lS rfl (mC V n hr ((N.trans N1).trans N2) S2 F2 (aO N2.pre (aO N1.pre hli)) e)
theorem wV{G:GSh}{g:GFn}(V:GV C r G g env){A:Around}{s0 s:Shared}{ρ0 ρ:List Lc}{H:MH}{lo:Lo}{Q:jT->MH->Prop}(hr:Room (r+1) A)(N:Nx ρ0 (Wr env) s0 ρ s)(S:Sim C H ρ s)(F:Fm C env ρ s lo)(e:g.start lo H Q):Sg C.M A (.func G.body env) (C.M.den (.func G.body env)) [] (GΦ C G env ρ0 s0 Q) s:=by
 show Sg C.M A _ (.point [] λ_=>((execs G.body env).onRaise (leaving env)) >>=_) [] _ s
 refine yC ?_
 rw[Sem.onRaise_eq_wrap,Sem.bind_eq_wrap',Sem.wrap_wrap]
 rw[Sem.wrap_congr (execs G.body env) _ _ (K':=GSh.Kf) (H':=GSh.Hf env) (λf=>by cases f<;>rfl) (λe=>by rw[Sem.bind_eq_wrap,Sem.wrap_wrap];rfl)]
 show Sg C.M A _ ((execs (G.pre++G.tail) env).wrap GSh.Kf (GSh.Hf env) id id) [] _ s
 rw[fA]
 refine x9 V.pre hr.overF S F e λ{s1 _ _ _} S1 N1 F1 e=>?_
 unfold GSh.tail
 refine cK ?_
 rw[exec_For]
 refine dK (wpAny_standAt (dK (EV.run V.it hr.overF S1 F1 e λ{x s2 ρ2 v2 H2} S2 N2 r2 e=>e.elim λci hi e=>?_)))
 refine xAE e λz96 n e=>?_;obtain⟨vs,hv⟩:=z96
 refine cX (r2.toRef hi) λlc _ hx gl=>?_
 subst hx
 refine bL (b5 S2 (.ref gl) hv) λad xs ha q2 q3=>?_
 cases ha
 refine dK (wpAny_of_eq (V.hs _) (dK (wpAny_standAt (dK (wpAny_holding (wpAny_pyIter_list q2 ?_))))))
 have S3:=S2.alloc {cls:=.type "list_iterator",data:=.fields #[.ref lc.a,.int 0 0]} (.itr (some (ci,0))) ⟨rfl,rfl,lc,aO (prefix_append _ _) gl,_,Heap.get?_push_size _ rfl,rfl,rfl⟩
 have N3:Nx ρ2 noW s2 _ _:=.alloc {cls:=.type "list_iterator",data:=.fields #[.ref lc.a,.int 0 0]}
 exact aC9 λp=>mC V n (li:=⟨s2.heap.objs.size,s2.heap.objs.size,none⟩) hr (((N.trans N1).trans N2.wr).trans N3.wr) S3 ((F1.nx N2).nx N3) S2.last e
theorem aAz{G:GSh}{A:Around}{s0 s:Shared}{ρ0 ρ:List Lc}{H:MH}{lo:Lo}{Q:jT->MH->Prop}(N:Nx ρ0 (Wr env) s0 ρ s)(S:Sim C H ρ s)(F:Fm C env ρ s lo)(q:Q .done H):Sg C.M A (.func G.body env) (GSh.Kf .next) [] (GΦ C G env ρ0 s0 Q) s:=yD (.ok (.ret .none)) (.done S N F.locals q)
end
section
variable {C:Cx}{r:Nat}{env:Env}
def fC(G:GSh)(ρ:List Lc)(s:Shared)(L:Addr)(lo:Lo):Prop:=∃ m,s.heap.Ns L m/\∀ x,(G.envL L).kindOf x=some .local->OV ρ s.heap (m x) (lo x)
def eJ(G:GSh)(ρ:List Lc)(s:Shared)(l:Lc)(gn:Gn):Prop:=∃ g nm qn,l.g=some g/\s.heap.get? l.a=some {cls:=.type "generator",data:=.fields #[.int (g:Nat) 0,nm,qn]}/\(match gn with
  | .fresh lo=>l.d≠l.a/\fC G ρ s l.d lo/\s.gens[g]? =some (.fresh (.func G.body (G.envL l.d)))
  | .loop it lo=>l.d≠l.a/\fC G ρ s l.d lo/\∃ li k l' p p',ρ[it]? =some li/\k (.send .none)=G.T1 (G.envL l.d) (.ref li.a)/\s.gens[g]? =some (.suspended k l' (G.loopC (G.envL l.d) (.ref li.a)) p (G.fs1 (G.envL l.d) p') false)
  | .last lo=>l.d≠l.a/\fC G ρ s l.d lo/\∃ k l' p,k (.send .none)=GSh.Kf .next/\s.gens[g]? =some (.suspended k l' (.func G.body (G.envL l.d)) p [] false)
  | .run=>l.d=l.a/\s.gens[g]? =some .running
  | .fin=>l.d≠l.a/\(∃ o,s.heap.get? l.d=some o/\¬aV o)/\s.gens[g]? =some .finished)
theorem fC.mono{G:GSh}{ρ ρ':List Lc}{s s':Shared}{L:Addr}{lo:Lo}(h:fC G ρ s L lo)(e:ρ<+:ρ')(i:Imm s.heap s'.heap)(h2:∀ o,s.heap.get? L=some o->s'.heap.get? L=some o):fC G ρ' s' L lo:=by
 refine xEA h λm z97 hm=>?_;obtain⟨o,es,ep,ho,q⟩:=z97
 exact⟨m,⟨o,es,ep,h2 _ ho,q⟩,λx hx=>(hm x hx).mono e i⟩
theorem eJ.mono{G:GSh}{ρ ρ':List Lc}{s s':Shared}{l:Lc}{gn:Gn}(e:ρ<+:ρ')(i:Imm s.heap s'.heap)(h1:∀ o,s.heap.get? l.a=some o->s'.heap.get? l.a=some o)(h2:∀ o,s.heap.get? l.d=some o->s'.heap.get? l.d=some o) (h3:∀ k x,l.g=some k->s.gens[k]? =some x->s'.gens[k]? =some x) (h:eJ G ρ s l gn):eJ G ρ' s' l gn:=by
 refine fF h λg nm qn hg ho hm=>?_
 refine⟨g,nm,qn,hg,h1 _ ho,?_⟩
 cases gn with
 |fresh lo=>exact⟨hm.1,hm.2.1.mono e i h2,h3 _ _ hg hm.2.2⟩
 |loop it lo=>refine fX hm λa b li k l' p p' x y z=>?_;exact⟨a,b.mono e i h2,li,k,l',p,p',aO e x,y,h3 _ _ hg z⟩
 |last lo=>refine oF hm λa b k l' p y z=>?_;exact⟨a,b.mono e i h2,k,l',p,y,h3 _ _ hg z⟩
 |run=>exact⟨hm.1,h3 _ _ hg hm.2⟩
 |fin=>refine xAA hm λa z98 z=>?_;obtain⟨o,x,y⟩:=z98;exact⟨a,⟨o,h2 _ x,y⟩,h3 _ _ hg z⟩
theorem eJ.here{G:GSh}{ρ:List Lc}{s:Shared}{l:Lc}{gn:Gn}(h:eJ G ρ s l gn):∃ o o',s.heap.get? l.a=some o/\s.heap.get? l.d=some o'/\¬aV o/\¬aV o':=by
 refine fF h λg nm qn hg ho hm=>?_
 have hi: ¬aV ({cls:=.type "generator",data:=.fields #[.int (g:Nat) 0,nm,qn]}:Obj):=by simp [aV]
 have fr:∀ lo,fC G ρ s l.d lo->∃ o o',s.heap.get? l.a=some o/\s.heap.get? l.d=some o'/\¬aV o/\¬aV o':=by
  rintro lo ⟨m,⟨o,es,ep,h2,hd,_⟩,_⟩
  exact⟨_,o,ho,h2,hi,by simp [aV,hd]⟩
 cases gn with
 |fresh lo=>exact fr lo hm.2.1
 |loop it lo=>exact fr lo hm.2.1
 |last lo=>exact fr lo hm.2.1
 |run=>rw[hm.1];exact⟨_,_,ho,ho,hi,hi⟩
 |fin=>refine xAA hm λ_ z99 _=>?_;obtain⟨o,x,y⟩:=z99;exact⟨_,o,ho,x,hi,y⟩
def mkCx(prog:Program)(w:World)(base:Shared)(lim:base.heap.NoLimit)(G:GSh):Cx:=⟨prog,w,base,lim,eJ G,eJ.mono,eJ.here⟩
structure GCx(C:Cx)(G:GSh):Prop where
 gr:∀ ρ s l gn,C.GR ρ s l gn=eJ G ρ s l gn
 loc:∀ L x,(G.envL L).kindOf x≠some .cell/\(G.envL L).kindOf x≠some .free
 cells:∀ L,(G.envL L).cells= []
 kind:G.fd.scope.kind= .function
 gl:G.fd.globals=mainGlobals
 bi:G.fd.builtins=builtinsNs
def iH(ρ ρ':List Lc):Prop:=∀ (n:Nat) (l:Lc),ρ[n]? =some l->∃ l',ρ'[n]? =some l'/\l'.a=l.a
theorem VR.sameA{ρ ρ':List Lc}{h:Heap}(e:iH ρ ρ'){u:Value}{v:V}(r:VR ρ h u v):VR ρ' h u v:=by
 refine VR.rec (motive_1:=λu v _=>VR ρ' h u v) (motive_2:=λus vs _=>VRs ρ' h us vs) .none .bool .int .str ?_ ?_ ?_ ?_ ?_ ?_ .raw .nil ?_ r
 ·intro a xs n vs g _ ih;exact .tup g ih
 ·intro a n x y z t u v dd g;exact .mat g
 ·intro n l g;refine xEA (e n l g) λl' h1 h2=>?_;rw[<-h2];exact .ref h1
 ·intro a n l g g';refine xEA (e n l g) λl' h1 h2=>?_;rw[<-h2]at g';exact .dget h1 g'
 ·intro a n l g g';refine xEA (e n l g) λl' h1 h2=>?_;rw[<-h2]at g';exact .scon h1 g'
 ·intro a x y z t u v g;exact .rng g
 ·intro u us v vs _ _ a b;exact .cons a b
theorem VRs.sameA{ρ ρ':List Lc}{h:Heap}(e:iH ρ ρ'):∀ {us:List Value}{vs:List V},VRs ρ h us vs->VRs ρ' h us vs
 |_,_,.nil=>.nil
 |_,_,.cons a b=>.cons (a.sameA e) (b.sameA e)
theorem OV.sameA{ρ ρ':List Lc}{h:Heap}(e:iH ρ ρ'):∀ {u:Option Value}{v:Option V},OV ρ h u v->OV ρ' h u v
 |none,none,_=>trivial
 |some _,some _,x=>VR.sameA e x
 |none,some _,x=>False.elim x
 |some _,none,x=>False.elim x
theorem OR.sameA{G:GSh}(hG:GCx C G){ρ ρ':List Lc}{s:Shared}{l:Lc}{m:MO}(e:iH ρ ρ')(r:OR C ρ s l m):OR C ρ' s l m:=by
 cases m with
 |list vs=>refine iW r λa g xs n x y=>?_;exact⟨a,g,xs,n,x,y.sameA e⟩
 |ro vs=>refine nJ r λa g xs x y=>?_;exact⟨a,g,xs,x,y.sameA e⟩
 |dict n f=>refine sN r λa g kvs q x y=>?_;exact⟨a,g,kvs,q,x,λk=>(y k).sameA e⟩
 |eset=>exact r
 |inst fs=>refine lO r λg ne o m a b c d=>?_;exact⟨g,ne,o,m,a,b,c,λk=>(d k).sameA e⟩
 |gen gn=>
  have r':C.GR ρ s l gn:=r
  rw[hG.gr]at r'
  show C.GR ρ' s l gn
  rw[hG.gr]
  refine fF r' λg nm qn hg ho hm=>?_
  refine⟨g,nm,qn,hg,ho,?_⟩
  have fr:∀ {lo},fC G ρ s l.d lo->fC G ρ' s l.d lo:=λ⟨m,hn,hm⟩=>⟨m,hn,λx hx=>(hm x hx).sameA e⟩
  cases gn with
  |fresh lo=>exact⟨hm.1,fr hm.2.1,hm.2.2⟩
  |loop it lo=>refine fX hm λa b li k l' p p' x y z=>?_;refine xEA (e _ _ x) λli' h1 h2=>?_;rw[<-h2]at y z;exact⟨a,fr b,li',k,l',p,p',h1,y,z⟩
  |last lo=>refine xAA hm λa b c=>?_;exact⟨a,fr b,c⟩
  |run=>exact hm
  |fin=>exact hm
 |itr p=>cases p with
  |none=>exact r
  |some p=>refine nJ r λa g li x y=>?_;refine xEA (e _ _ x) λli' h1 h2=>?_;rw[<-h2]at y;exact⟨a,g,li',h1,y⟩
theorem sR{s:Shared}{g k:Nat}{x y:GenState}(h:k≠g)(e:s.gens[k]? =some y):(s.setGen g x).gens[k]? =some y:=by
 show(s.gens.setIfInBounds g x)[k]? =some y
 rw[Array.getElem?_setIfInBounds_ne (Ne.symm h)];exact e
theorem eZ{s:Shared}{g:Nat}{x y:GenState}(e:s.gens[g]? =some y):(s.setGen g x).gens[g]? =some x:=by
 have:g<s.gens.size:=by
  refine Or.elim (lt_or_ge g s.gens.size) (λq=>?_) λq=>?_
  ·exact q
  ·rw[Array.getElem?_eq_none q]at e;cases e
 show(s.gens.setIfInBounds g x)[g]? =some x
 simp [Array.getElem?_setIfInBounds,this]
theorem rA{s:Shared}{g:Nat}{x:GenState}(h:AllBare s.gens)(hx:x.bare=true):AllBare (s.setGen g x).gens:=by
 intro y hy
 have hy':y∈s.gens.setIfInBounds g x:=hy
 obtain⟨i,hi,rfl⟩:=Array.mem_iff_getElem.mp hy'
 rw[Array.getElem_setIfInBounds (by simpa using hi)]
 split
 ·exact hx
 ·exact h _ (Array.getElem_mem _)
theorem jW{ρ:List Lc}{gi:Nat}{l l':Lc}(hl:ρ[gi]? =some l)(ha:l'.a=l.a):iH ρ (ρ.set gi l'):=by
 intro n x hx
 have hlt:gi<ρ.length:=(List.getElem?_eq_some_iff.mp hl).1
 by_cases q:n=gi
 ·subst q
  rw[hl]at hx;cases hx
  exact⟨l',by rw[getElem?_set_self hlt],ha⟩
 ·exact⟨x,by rw[getElem?_set_ne (Ne.symm q)];exact hx,rfl⟩
theorem Sim.swapG{G:GSh}(hG:GCx C G){H:MH}{ρ:List Lc}{s:Shared}{gi g:Nat}{l l':Lc}{gn gn':Gn}{gs:GenState}(S:Sim C H ρ s)(hl:ρ[gi]? =some l)(hH:H[gi]? =some (.gen gn))(ha:l'.a=l.a)(hg:l'.g=l.g)(hg':l.g=some g)(hb:gs.bare=true)(hd:l'.d=l.a\/l'.d=l.d\/(¬Own ρ l'.d/\C.base.heap.get? l'.d=none)) (hnew:eJ G (ρ.set gi l') (s.setGen g gs) l' gn'):Sim C (H.set gi (.gen gn')) (ρ.set gi l') (s.setGen g gs):=by
 have hlt:gi<ρ.length:=(List.getElem?_eq_some_iff.mp hl).1
 have hltH:gi<H.length:=by rw[<-S.len];exact hlt
 have sa:=jW hl ha
 have other:∀ {i:Nat}{x:Lc},(ρ.set gi l')[i]? =some x->(i=gi/\x=l')\/(i≠gi/\ρ[i]? =some x):=by
  intro i x h
  by_cases q:i=gi
  ·subst q;rw[getElem?_set_self hlt]at h;cases h;exact .inl ⟨rfl,rfl⟩
  ·rw[getElem?_set_ne (Ne.symm q)]at h;exact .inr ⟨q,h⟩
 have hbase:C.base.heap.get? l.a=none/\C.base.heap.get? l.d=none:=by
  rcases S.ro gi l hl with ⟨vs,e⟩ |e
  ·rw[hH]at e;cases e
  ·exact e
 have hdis:∀ {i:Nat}{x:Lc},i≠gi->ρ[i]? =some x->∀ b,l'.has b->¬x.has b:=by
  intro i x q hx b hb hxb
  have old:=S.disj gi i l x hl hx (Ne.symm q)
  rcases hb with rfl |rfl
  ·rw[ha]at hxb;exact old _ (.inl rfl) hxb
  ·rcases hd with e |e |⟨e,_⟩
   ·rw[e]at hxb;exact old _ (.inl rfl) hxb
   ·rw[e]at hxb;exact old _ (.inr rfl) hxb
   ·exact e ⟨x,mem_of_getElem? hx,hxb⟩
 refine⟨by simp [S.len],S.keep,λi m x hm hx=>?_,λi x hx=>?_,λi j li lj hi hj hne b h1 h2=>?_,λi j li lj k hi hj hne h1 h2=>?_,S.os,rA S.bare hb⟩
 ·rcases other hx with ⟨rfl,rfl⟩ |⟨q,hx'⟩
  ·rw[getElem?_set_self hltH]at hm;cases hm
   show C.GR _ _ _ _
   rw[hG.gr];exact hnew
  ·rw[getElem?_set_ne (Ne.symm q)]at hm
   have o:=S.objs i m x hm hx'
   have o2:OR C ρ (s.setGen g gs) x m:=o.mono (s:=s) (s':=s.setGen g gs) (prefix_refl _) (.refl _) (λ_ e=>e) (λ_ e=>e) (λk y hk e=>sR (λz=>S.disjG i gi x l k hx' hl q hk (by rw[hg',z])) e)
   exact OR.sameA hG sa o2
 ·rcases other hx with ⟨rfl,rfl⟩ |⟨q,hx'⟩
  ·right
   refine⟨by rw[ha];exact hbase.1,?_⟩
   rcases hd with e |e |⟨_,e⟩
   ·rw[e];exact hbase.1
   ·rw[e];exact hbase.2
   ·exact e
  ·rw[getElem?_set_ne (Ne.symm q)];exact S.ro i x hx'
 ·rcases other hi with ⟨rfl,rfl⟩ |⟨q,hi'⟩<;>rcases other hj with ⟨rfl,rfl⟩ |⟨q',hj'⟩
  ·exact hne rfl
  ·exact hdis q' hj' b h1 h2
  ·exact hdis q hi' b h2 h1
  ·exact S.disj i j li lj hi' hj' hne b h1 h2
 ·rcases other hi with ⟨rfl,rfl⟩ |⟨q,hi'⟩<;>rcases other hj with ⟨rfl,rfl⟩ |⟨q',hj'⟩
  ·exact hne rfl
  ·exact S.disjG i j l lj k hl hj' hne (hg▸h1) h2
  ·exact S.disjG i j li l k hi' hl hne h1 (hg▸h2)
  ·exact S.disjG i j li lj k hi' hj' hne h1 h2
def MO.gn:MO->Option Gn | .gen g=>some g |_=>none
theorem aAw{m:Option MO}{g:Gn}(e:m.bind MO.gn=some g):m=some (.gen g):=by
 refine xEA (bind_eq_some_iff.mp e) λm z101 h2=>?_;subst z101
 cases m with
 |gen g=>cases h2;rfl
 |_=>cases h2
def GFn.finK(gi:Nat)(Q:Option V->MH->Prop):jT->MH->Prop:=λo H1=>H1[gi]? =some (.gen .run)/\match o with
 | .yl it lo v=>Q (some v) (H1.set gi (.gen (.loop it lo)))
 | .yr lo v=>Q (some v) (H1.set gi (.gen (.last lo)))
 | .done=>Q none (H1.set gi (.gen .fin))
def GFn.nxG(g:GFn)(gi:Nat)(H:MH)(Q:Option V->MH->Prop):Gn->Prop
 | .fresh lo=>g.start lo (H.set gi (.gen .run)) (GFn.finK gi Q)
 | .loop it lo=>g.more it lo (H.set gi (.gen .run)) (GFn.finK gi Q)
 | .last lo=>Q none (H.set gi (.gen .fin))
 | .fin=>Q none H
 | .run=>False
def GFn.nx(g:GFn)(gi:Nat)(H:MH)(Q:Option V->MH->Prop):Prop:=Lf (H[gi]?.bind MO.gn) λgn=>g.nxG gi H Q gn
theorem Fm.ofFrm{G:GSh}(hG:GCx C G){ρ:List Lc}{s:Shared}{L:Addr}{lo:Lo}(h:fC G ρ s L lo)(ho: ¬Own ρ L)(hb:C.base.heap.get? L=none):Fm C (G.envL L) ρ s lo:=by
 refine xEA h λm hn hm=>?_
 have hc:∀ x c,(G.envL L).cells.lookup x=some c->False:=λx c e=>by rw[hG.cells]at e;cases e
 refine⟨hG.kind,hG.gl,hG.bi,⟨m,hn,hm⟩,λx hx=>?_,λb hb'=>?_,λx c e=>(hc x c e).elim,λx y c e=>(hc x c e).elim,λb hb'=>?_⟩
 ·refine Or.elim hx (λhx=>?_) λhx=>?_
  ·exact absurd hx (hG.loc L x).1
  ·exact absurd hx (hG.loc L x).2
 ·rcases hb' with rfl |⟨x,e⟩
  ·exact⟨ho,hb⟩
  ·exact(hc x b e).elim
 ·rcases hb' with rfl |⟨x,e⟩
  ·refine gS hn λo _ _ g _=>?_;exact⟨o,g⟩
  ·exact(hc x b e).elim
theorem Fm.frm{G:GSh}{ρ:List Lc}{s:Shared}{L:Addr}{lo:Lo}(F:Fm C (G.envL L) ρ s lo):fC G ρ s L lo:=F.ns
theorem uD{prog:Program}{w:World}{A:Around}{E:Value->Shared->Prop}{s:Shared}{α β:Type}{k':β->Sem α}{R:α->Shared->Prop}(hh:A.handled=none)(hE:∀ x h',(∃ o,h'.get? x=some o/\o.cls= .type "StopIteration")->(∀ b o,s.heap.get? b=some o->h'.get? b=some o)->E (.ref x) {s with heap:=h'}):
  wpAny (model prog w) A (newExc (.type "StopIteration") [] >>=λx=>(raiseNew x:Sem β) >>=k') R E s:=by
 refine zzB ?_
 simp only[newExc,newTuple]
 refine zzB (wpAny_newObj_type ?_ (by size_fits))
 refine zzB (m:=firstArgMember _ _) (wpAny_of_eq (a:=Value.none) (by first |rfl | (simp only[firstArgMember];rfl)) ?_)
 refine wpAny_newObj_type ?_ (by size_fits)
 refine zzB ?_
 delta raiseNew;dsimp only
 refine zzB (wpAny_handled ?_)
 rw[hh]
 refine zzB (zzP (wpAny_throw ?_))
 exact hE _ _ ⟨_,Heap.get?_push_size _ rfl,rfl⟩ (λb o hb=>Heap.get?_push_of_some _ (Heap.get?_push_of_some _ hb))
theorem Sim.extS{H:MH}{ρ:List Lc}{s:Shared}{h':Heap}(S:Sim C H ρ s)(hk:∀ b o,s.heap.get? b=some o->h'.get? b=some o):Sim C H ρ {s with heap:=h'}:=S.ext (k:=s.toks) hk
structure GAt(C:Cx)(G:GSh)(H:MH)(ρ:List Lc)(s:Shared)(gi gk:Nat)(l:Lc):Prop where
 S:Sim C H ρ s
 hl:ρ[gi]? =some l
 hH:∃ gn,H[gi]? =some (.gen gn)
 hg:l.g=some gk
 ho:∃ nm qn,s.heap.get? l.a=some {cls:=.type "generator",data:=.fields #[.int (gk:Nat) 0,nm,qn]}
 base:C.base.heap.get? l.a=none/\C.base.heap.get? l.d=none
 ne:l.d≠l.a
 hL:∃ oL,s.heap.get? l.d=some oL
noncomputable abbrev lrun(l:Lc):Lc:= {l with d:=l.a}
theorem GAt.run{G:GSh}(hG:GCx C G){s:Shared}{ρ:List Lc}{H:MH}{gi gk:Nat}{l:Lc}{gs:GenState}(a:GAt C G H ρ s gi gk l)(hgs:s.gens[gk]? =some gs):Sim C (H.set gi (.gen .run)) (ρ.set gi (lrun l)) (s.setGen gk .running)/\¬Own (ρ.set gi (lrun l)) l.d/\iH ρ (ρ.set gi (lrun l)):=by
 refine xEE a.ho λnm qn ho=>?_
 refine xE a.hH λgn hH=>?_
 have hlt:gi<ρ.length:=(List.getElem?_eq_some_iff.mp a.hl).1
 refine⟨a.S.swapG hG (l':=lrun l) a.hl hH rfl rfl a.hg rfl (.inl rfl) ⟨gk,nm,qn,a.hg,ho,rfl,eZ hgs⟩,?_,jW a.hl rfl⟩
 rintro ⟨x,hx,hb⟩
 refine xE (getElem?_of_mem hx) λi hi=>?_
 by_cases q:i=gi
 ·subst q
  rw[getElem?_set_self hlt]at hi;cases hi
  refine Or.elim hb (λz=>?_) λz=>?_<;>exact a.ne z
 ·rw[getElem?_set_ne (Ne.symm q)]at hi
  exact a.S.disj gi i l x a.hl hi (Ne.symm q) _ (.inr rfl) hb
theorem GAt.back{G:GSh}(hG:GCx C G){s:Shared}{ρ:List Lc}{H:MH}{gi gk:Nat}{l:Lc}(a:GAt C G H ρ s gi gk l)(hown: ¬Own (ρ.set gi (lrun l)) l.d){ρ1:List Lc}{s1:Shared}{H1:MH}{gs:GenState}{gn':Gn} (N:Nx (ρ.set gi (lrun l)) (Wr (G.envL l.d)) (s.setGen gk .running) ρ1 s1) (S1:Sim C H1 ρ1 s1) (hH1:H1[gi]? =some (.gen .run)) (hbare:gs.bare=true)(hnew:∀ nm qn,s1.heap.get? l.a=some {cls:=.type "generator",data:=.fields #[.int (gk:Nat) 0,nm,qn]}->iH ρ1 (ρ1.set gi l)->(∃ y,s1.gens[gk]? =some y)->eJ G (ρ1.set gi l) (s1.setGen gk gs) l gn'):
  Sim C (H1.set gi (.gen gn')) (ρ1.set gi l) (s1.setGen gk gs)/\Nx ρ noW s (ρ1.set gi l) (s1.setGen gk gs)/\iH ρ1 (ρ1.set gi l):=by
 have hlt:gi<ρ.length:=(List.getElem?_eq_some_iff.mp a.hl).1
 have hl1:ρ1[gi]? =some (lrun l):=aO N.pre (by rw[getElem?_set_self hlt])
 have sa:iH ρ1 (ρ1.set gi l):=jW hl1 rfl
 have o1:eJ G ρ1 s1 (lrun l) .run:=by have:=S1.objs gi _ _ hH1 hl1;rw[<-hG.gr];exact this
 refine cH o1 λgk' nm' qn' hg' ho' _ hrun=>?_
 obtain rfl:gk'=gk:=Option.some.inj (hg'.symm.trans a.hg)
 refine xE a.hL λoL hoL=>?_
 refine⟨S1.swapG hG hl1 hH1 rfl rfl a.hg hbare (.inr (.inr ⟨N.own hoL hown,a.base.2⟩)) (hnew nm' qn' ho' sa ⟨_,hrun⟩),?_,sa⟩
 refine xE N.pre λt ht=>?_
 have hpre:ρ1.set gi l=ρ++t:=by
  rw[<-ht,List.set_append_left _ _ (by simpa using hlt),set_set]
  refine xE (List.getElem?_eq_some_iff.mp a.hl) λhh e=>?_
  rw[<-e,List.set_getElem_self]
 refine⟨⟨t,hpre.symm⟩,λx hx=>?_,λb o e ho' _=>?_,N.imm,λb o e=>N.al b o e⟩
 ·rw[hpre,drop_left]at hx
  refine N.new x ?_
  rw[<-ht,drop_left];exact hx
 ·refine N.kp b o e ?_ ?_
  ·rintro ⟨x,hx,hb⟩
   refine xE (getElem?_of_mem hx) λi hi=>?_
   by_cases q:i=gi
   ·subst q
    rw[getElem?_set_self hlt]at hi;cases hi
    exact ho' ⟨l,mem_of_getElem? a.hl,hb.elim .inl .inl⟩
   ·rw[getElem?_set_ne (Ne.symm q)]at hi
    exact ho' ⟨x,mem_of_getElem? hi,hb⟩
  ·rintro (rfl |⟨x,hx⟩)
   ·exact ho' ⟨l,mem_of_getElem? a.hl,.inr rfl⟩
   ·rw[hG.cells]at hx;cases hx
inductive k8(C:Cx)(gi:Nat)(ρ:List Lc)(s:Shared)(Q:Option V->MH->Prop):Option Value->Shared->Prop
 |item {u v ρ' s' H'} (S:Sim C H' ρ' s') (N:Nx ρ noW s ρ' s') (r:VR ρ' s'.heap u v) (hg:∃ gn,H'[gi]? =some (.gen gn)) (q:Q (some v) H'):k8 C gi ρ s Q (some u) s'
 |done {ρ' s' H'} (S:Sim C H' ρ' s') (N:Nx ρ noW s ρ' s') (q:Q none H'):k8 C gi ρ s Q none s'
theorem k8.ext{gi:Nat}{ρ:List Lc}{s s1:Shared}{Q:Option V->MH->Prop}{h':Heap}(h:k8 C gi ρ s Q none s1)(hk:∀ b o,s1.heap.get? b=some o->h'.get? b=some o):k8 C gi ρ s Q none {s1 with heap:=h'}:=by
 cases h with
 |done S N q=>exact .done (S.extS hk) (N.trans (.ext (k:=s1.toks) hk)) q
structure Wk(C:Cx)(A:Around)(P:Option Value->Shared->Prop)(Q:PySem.Fin->Shared->Prop)(E:Value->Shared->Prop)(kk:GenResult->Sem PySem.Fin):Prop where
 y:∀ v,kk (.yielded v)=ret v
 r:∃ k':PUnit->Sem PySem.Fin,kk (.returned .none)=(newExc (.type "StopIteration") [] >>=λx=>(raiseNew x:Sem PUnit) >>=k')
 h1:∀ u s',P (some u) s'->Q (.done (.ret u)) s'
 h2:∀ x h' s1,P none s1->(∃ o,h'.get? x=some o/\o.cls= .type "StopIteration")->(∀ b o,s1.heap.get? b=some o->h'.get? b=some o)->E (.ref x) {s1 with heap:=h'}
theorem GAt.main{G:GSh}(hG:GCx C G){A:Around}{s:Shared}{ρ:List Lc}{H:MH}{gi gk:Nat}{l:Lc}{gs:GenState}{Q0:Option V->MH->Prop}(hr:A.handled=none)(a:GAt C G H ρ s gi gk l)(hown: ¬Own (ρ.set gi (lrun l)) l.d)(hgs:s.gens[gk]? =some gs)(hgo:aCn C.M A (GΦ C G (G.envL l.d) (ρ.set gi (lrun l)) (s.setGen gk .running) (GFn.finK gi Q0)) (.send .none) (s.setGen gk .running) gs){Q:PySem.Fin->Shared->Prop}{E:Value->Shared->Prop}{kk:GenResult->Sem PySem.Fin} (W:Wk C A (k8 C gi ρ s Q0) Q E kk):wpAny C.M A (.resume gk (.send .none) [] kk) Q E s:=by
 have frs:∀ {ρ1:List Lc}{s1:Shared}{lo:Lo}{gs':GenState},iH ρ1 (ρ1.set gi l)->Fm C (G.envL l.d) ρ1 s1 lo->fC G (ρ1.set gi l) (s1.setGen gk gs') l.d lo:=λsa F=>
  let ⟨m,hn,hm⟩:=F.frm;⟨m,hn,λx hx=>(hm x hx).sameA sa⟩
 refine sO hgs hgo λe s1 hΦ=>?_
 cases hΦ with
 |yl S1 N1 hk hli ru Fu q=>
  refine⟨rfl,?_⟩
  rename_i li u l' k p p'
  have B:=a.back hG hown (gs:=.suspended k l' (G.loopC (G.envL l.d) (.ref li.a)) p (G.fs1 (G.envL l.d) p') false) (gn':=.loop _ _) N1 S1 q.1 rfl (λnm qn ho' sa ⟨y,hy⟩=>by
   refine xEA (sa _ li hli) λli' e1 e2=>?_
   exact⟨gk,nm,qn,a.hg,ho',a.ne,frs sa Fu,li',k,l',p,p',e1,by rw[e2];exact hk,by rw[e2];exact eZ hy⟩)
  show wpAny C.M A (kk (.yielded u)) Q E _
  rw[W.y]
  exact zzP (W.h1 u _ (.item B.1 B.2.1 (ru.sameA B.2.2) ⟨_,getElem?_set_self (List.getElem?_eq_some_iff.mp q.1).1⟩ q.2))
 |yr S1 N1 hk ru Fu q=>
  refine⟨rfl,?_⟩
  rename_i u l' k p
  have B:=a.back hG hown (gs:=.suspended k l' (.func G.body (G.envL l.d)) p [] false) (gn':=.last _) N1 S1 q.1 rfl (λnm qn ho' sa ⟨y,hy⟩=>⟨gk,nm,qn,a.hg,ho',a.ne,frs sa Fu,k,l',p,hk,eZ hy⟩)
  show wpAny C.M A (kk (.yielded u)) Q E _
  rw[W.y]
  exact zzP (W.h1 u _ (.item B.1 B.2.1 (ru.sameA B.2.2) ⟨_,getElem?_set_self (List.getElem?_eq_some_iff.mp q.1).1⟩ q.2))
 |done S1 N1 hD q=>
  refine⟨rfl,?_⟩
  have B:=a.back hG hown (gs:=.finished) (gn':=.fin) N1 S1 q.1 rfl (λnm qn ho' sa ⟨y,hy⟩=>⟨gk,nm,qn,a.hg,ho',a.ne,hD,eZ hy⟩)
  show wpAny C.M A (kk (.returned .none)) Q E (s1.setGen gk .finished)
  refine xE W.r λk' hk2=>?_
  rw[hk2]
  exact uD hr λx h' hx hk=>W.h2 x h' _ (.done B.1 B.2.1 q.2) hx hk
theorem rV{A:Around}{s:Shared}{a:Addr}{gk:Nat}{gs:GenState}{Q:Option Value->Shared->Prop}(hIs:s.heap.IsGen a gk)(hgs:s.gens[gk]? =some gs)(h:wpAny C.M A.in1 (Builtin.Generator.genWake (.ref a) (.send .none)) (λfin s'=>∃ u,fin= .done (.ret u)/\Q (some u) s') (λe s'=>∃ x,e= .ref x/\(∃ o,s'.heap.get? x=some o/\o.cls= .type "StopIteration")/\Q none s') s):wpAny C.M A (pyNext (.ref a)) Q NoE s:=by
 unfold pyNext
 refine zzB (wpAny_attempt (wpAny_callSpecial?_slot (name:=Str.ofString "__next__") hIs.typeIs slot_gen_next
  (wpAny_call_entry slot_gen_next hIs.typeIs entry_gen_next (wpAny_mono h (λfin s' h=>?_) λe s' h=>?_) (args_gen_next _))))
 ·obtain⟨u,rfl,h⟩:=h
  exact⟨u,rfl,zzP h⟩
 ·obtain⟨x,rfl,⟨o,ho2,hc2⟩,h⟩:=h
  exact zzB (wpAny_isInstance (T:="StopIteration") (b:=true) ⟨o,ho2,hc2⟩ isSubtype_stop (zzP h))
theorem GAt.wake{G:GSh}(hG:GCx C G){A:Around}{s:Shared}{ρ:List Lc}{H:MH}{gi gk:Nat}{l:Lc}{gs:GenState}{Q0:Option V->MH->Prop}(hr:Room (r+2) A)(a:GAt C G H ρ s gi gk l)(hown: ¬Own (ρ.set gi (lrun l)) l.d)(hgs:s.gens[gk]? =some gs)(hgo:aCn C.M A.in1 (GΦ C G (G.envL l.d) (ρ.set gi (lrun l)) (s.setGen gk .running) (GFn.finK gi Q0)) (.send .none) (s.setGen gk .running) gs):wpAny C.M A (pyNext (.ref l.a)) (k8 C gi ρ s Q0) NoE s:=by
 refine xEE a.ho λnm qn ho=>?_
 have hIs:s.heap.IsGen l.a gk:=⟨_,nm,qn,ho,rfl,rfl,rfl⟩
 refine rV hIs hgs ?_
 unfold Builtin.Generator.genWake
 refine zzB (wpAny_holding (wpAny_genNumber hIs (zzB (wpAny_genState hgs ?_))))
 cases gs with
 |running=>exact hgo.elim
 |finished=>exact hgo.elim
 |_=>
  refine zzB (wpAny_roomToWake (C.lim.keeps a.S.keep) hr.lt ?_)
  show wpAny _ A.in1 (.resume gk (.send .none) [] _) _ _ s
  exact GAt.main (A:=A.in1) hG (show A.in1.handled=none from hr.1) a hown hgs hgo ⟨λ_=>rfl,⟨_,rfl⟩,λu s' hp=>⟨u,rfl,hp⟩,λx h' s1 hp hx hk=>⟨x,rfl,hx,hp.ext hk⟩⟩
theorem Room.in1{A:Around}(hr:Room (r+2) A):Room (r+1) A.in1:=⟨hr.1,by have:=hr.2.1;show A.depth+10*(r+1)<=700;exact A38 this,by have:=hr.2.2;show A.units+1+40*(r+1)<=8000;exact A39 this⟩
theorem aA0{G:GSh}{g:GFn}(hG:GCx C G)(VV:∀ L,GV C r G g (G.envL L)){A:Around}{s:Shared}{ρ:List Lc}{H:MH}{gi:Nat}{l:Lc}{Q:Option V->MH->Prop}(hr:Room (r+2) A)(S:Sim C H ρ s)(hl:ρ[gi]? =some l)(e:g.nx gi H Q):wpAny C.M A (pyNext (.ref l.a)) (k8 C gi ρ s Q) NoE s:=by
 refine e.elim λgn hH e=>?_
 have hH:=aAw hH
 have o:eJ G ρ s l gn:=by have:=S.objs gi _ l hH hl;rw[<-hG.gr];exact this
 refine fF o λgk nm qn hg ho hm=>?_
 have hbase:C.base.heap.get? l.a=none/\C.base.heap.get? l.d=none:=by
  rcases S.ro gi l hl with ⟨vs,e⟩ |e
  ·rw[hH]at e;cases e
  ·exact e
 have mk:∀ {lo},l.d≠l.a->fC G ρ s l.d lo->GAt C G H ρ s gi gk l:=λhne hfr=>⟨S,hl,⟨_,hH⟩,hg,⟨nm,qn,ho⟩,hbase,hne,let ⟨m,⟨o,_,_,g,_⟩,_⟩:=hfr;⟨o,g⟩⟩
 have fm:∀ {lo},iH ρ (ρ.set gi (lrun l))->fC G ρ s l.d lo->¬Own (ρ.set gi (lrun l)) l.d->Fm C (G.envL l.d) (ρ.set gi (lrun l)) (s.setGen gk .running) lo:=λsa hfr hown=>
  Fm.ofFrm hG (let ⟨m,hn,hm⟩:=hfr;⟨m,hn,λx hx=>(hm x hx).sameA sa⟩) hown hbase.2
 cases gn with
 |fresh lo=>
  refine xAA hm λhne hfr hgs=>?_
  refine xAA ((mk hne hfr).run hG hgs) λS1 hown sa=>?_
  exact(mk hne hfr).wake hG hr hown hgs ⟨rfl,wV (VV l.d) hr.in1 .refl S1 (fm sa hfr hown) e⟩
 |loop it lo=>
  refine fX hm λhne hfr li k l' p p' hli hk hgs=>?_
  refine xAA ((mk hne hfr).run hG hgs) λS1 hown sa=>?_
  refine xEA (sa it li hli) λli' e1 e2=>?_
  refine(mk hne hfr).wake hG hr hown hgs ?_
  show Sg C.M A.in1 _ (k (.send .none)) _ _ _
  rw[hk,<-e2]
  exact aAx (VV l.d) hr.in1 .refl S1 (fm sa hfr hown) e1 e
 |last lo=>
  refine oF hm λhne hfr k l' p hk hgs=>?_
  refine xAA ((mk hne hfr).run hG hgs) λS1 hown sa=>?_
  refine(mk hne hfr).wake hG hr hown hgs ?_
  show Sg C.M A.in1 _ (k (.send .none)) _ _ _
  rw[hk]
  exact aAz .refl S1 (fm sa hfr hown) ⟨getElem?_set_self (List.getElem?_eq_some_iff.mp hH).1,by rw[set_set];exact e⟩
 |run=>exact e.elim
 |fin=>
  refine xAA hm λhne _ hgs=>?_
  have hIs:s.heap.IsGen l.a gk:=⟨_,nm,qn,ho,rfl,rfl,rfl⟩
  refine rV hIs hgs ?_
  unfold Builtin.Generator.genWake
  refine zzB (wpAny_holding (wpAny_genNumber hIs (zzB (wpAny_genState hgs ?_))))
  have W:∀ {kk:GenResult->Sem PySem.Fin}{Q:PySem.Fin->Shared->Prop}{E:Value->Shared->Prop},wpAny C.M A.in1 (kk .finished) Q E s->wpAny C.M A.in1 (.resume gk (.send .none) [] kk) Q E s:=by
   intro kk Q E h Γ p hΓ
   rw[Sem.wp_resume]
   exact⟨.finished,s,by unfold Wakes;rw[hgs];exact⟨rfl,rfl⟩,h Γ p hΓ⟩
  show wpAny _ A.in1 (.resume gk (.send .none) [] _) _ _ s
  refine W ?_
  have e2:(newExc (.type "StopIteration") [] >>=λx=>(raiseNew x:Sem PySem.Fin))=(newExc (.type "StopIteration") [] >>=λx=>(raiseNew x:Sem PySem.Fin) >>=λy=>(pure y:Sem PySem.Fin)):=by simp
  show wpAny C.M A.in1 (newExc (.type "StopIteration") [] >>=λx=>(raiseNew x:Sem PySem.Fin)) _ _ s
  rw[e2]
  exact uD hr.1 λx h' hx hk=>⟨x,rfl,hx,.done (S.extS hk) (.ext (k:=s.toks) hk) e⟩
end
section
variable {C:Cx}{r:Nat}{env:Env}
theorem g_lt{G:GSh}(hG:GCx C G){H:MH}{ρ:List Lc}{s:Shared}{i k:Nat}{l:Lc}(S:Sim C H ρ s)(hl:ρ[i]? =some l)(hk:l.g=some k):k<s.gens.size:=by
 have hlt:i<H.length:=by rw[<-S.len];exact(List.getElem?_eq_some_iff.mp hl).1
 have o:=S.objs i H[i] l (getElem?_eq_getElem hlt) hl
 revert o
 cases H[i] with
 |list vs=>rintro ⟨_,g,_⟩;rw[g]at hk;cases hk
 |ro vs=>rintro ⟨_,g,_⟩;rw[g]at hk;cases hk
 |dict n f=>rintro ⟨_,g,_⟩;rw[g]at hk;cases hk
 |eset=>rintro ⟨_,g,_⟩;rw[g]at hk;cases hk
 |inst fs=>rintro ⟨g,_⟩;rw[g]at hk;cases hk
 |itr p=>
  cases p with
  |none=>rintro ⟨_,g,_⟩;rw[g]at hk;cases hk
  |some p=>rintro ⟨_,g,_⟩;rw[g]at hk;cases hk
 |gen gn=>
  intro o
  have o':eJ G ρ s l gn:=by rw[<-hG.gr];exact o
  refine fF o' λg nm qn hg ho hm=>?_
  obtain rfl:g=k:=by rw[hg]at hk;exact Option.some.inj hk
  have sz:∀ {x},s.gens[g]? =some x->g<s.gens.size:=λ{x} e=>by
   refine Or.elim (lt_or_ge g s.gens.size) (λq=>?_) λq=>?_
   ·exact q
   ·rw[Array.getElem?_eq_none q]at e;cases e
  cases gn with
  |fresh lo=>exact sz hm.2.2
  |loop it lo=>refine fX hm λ_ _ _ _ _ _ _ _ _ z=>?_;exact sz z
  |last lo=>refine oF hm λ_ _ _ _ _ _ z=>?_;exact sz z
  |run=>exact sz hm.2
  |fin=>exact sz hm.2.2
def cGen(names:List Str)(more:List V):CF:=λvs H Q=>(vs++more).length=names.length/\Q (.ref H.length) (H++[.gen (.fresh (loB names (vs++more) lo0))])
theorem CV.gen{G:GSh}(hG:GCx C G)(D:Def C G.fa G.fd G.body){names:List Str}{dflt:List Value}{more:List V}(hgen:G.fd.scope.isGenerator=true)(hb:Binds C G.fd names dflt)(hd:∀ ρ h,VRs ρ h dflt more)(hn:∀ x∈names,G.fd.scope.names.lookup x=some .local):CV C (r+1) (.ref G.fa) (cGen names more):=by
 refine xEA D.obj λo ho hdata=>?_
 refine CC.cv ho hdata ?_
 intro A s ρ H us vs Q hr S hu e
 refine xA e λhlen q=>?_
 have hu':VRs ρ s.heap (us++dflt) (vs++more):=hu.append (hd _ _)
 have hlen':(us++dflt).length=names.length:=hu'.length.trans hlen
 refine codeAny_call_generator hr.lt (S.keep _ _ ho) hdata D.co hgen D.body (D.code.keeps S.keep) (hb s us S.keep hlen' _ _ _ _ ?_)
 rw[D.clo]
 refine wpAny_newFunctionEnv_cells D.kind (λx hx=>.inl (hn x.1 (List.of_mem_zip hx).1)) λenv he s1 I=>?_
 subst he
 refine xAAA (Fm.call D S hu' hlen' (λx hx=>.inl (hn x hx)) I) λS1 N1 F1 hfr=>?_
 refine⟨(C.lim.keeps S.keep).keeps I.toInCall.keep,?_⟩
 refine xEE I.toInCall.same λh1 tk1 e1=>?_
 refine xEA F1.ns λm hns hm=>?_
 have hLne:s.heap.objs.size≠s1.heap.objs.size:=λq=>by
  refine gS hns λo _ _ g _=>?_
  have:=Heap.lt_size g
  have h2:(callEnvC G.fd s.heap.objs.size G.fa).locals=s.heap.objs.size:=rfl
  rw[h2,q]at this
  exact Nat.lt_irrefl _ this
 have hgs:s1.gens=s.gens:=by rw[e1]
 have keepG:∀ b o,s1.heap.get? b=some o->(s1.heap.push {cls:=.type "generator",data:=.fields #[.int s1.gens.size 0,.str G.fd.name s1.toks,.str G.fd.qualname (s1.toks+1)]}).get? b=some o:=λb o e=>Heap.get?_push_of_some _ e
 have kall:∀ b o,s.heap.get? b=some o->(s1.heap.push {cls:=.type "generator",data:=.fields #[.int s1.gens.size 0,.str G.fd.name s1.toks,.str G.fd.qualname (s1.toks+1)]}).get? b=some o:=λb o e=>keepG b o (I.toInCall.keep b o e)
 have hka:s.heap.get? s1.heap.objs.size=none:=by
  cases q:s.heap.get? s1.heap.objs.size with
  |none=>rfl
  |some o=>have:=I.toInCall.keep _ _ q;rw[bD]at this;cases this
 have SN:=S.new (s':= {s1 with gens:=s1.gens.push (.fresh (.func G.body (callEnvC G.fd s.heap.objs.size G.fa))),toks:=s1.toks+1+1,heap:=s1.heap.push {cls:=.type "generator",data:=.fields #[.int s1.gens.size 0,.str G.fd.name s1.toks,.str G.fd.qualname (s1.toks+1)]}})
  (l:=⟨s1.heap.objs.size,s.heap.objs.size,some s.gens.size⟩) (m:=.gen (.fresh (loB names (vs++more) lo0))) kall (λk x e=>by
   have hlt:k<s.gens.size:=by
    refine Or.elim (lt_or_ge k s.gens.size) (λq=>?_) λq=>?_
    ·exact q
    ·rw[Array.getElem?_eq_none q]at e;cases e
   show(s1.gens.push _)[k]? =some x
   rw[hgs,Array.getElem?_push,if_neg (ne_of_lt hlt)];exact e) (by rw[e1]) (by rw[hgs];exact S.bare.push rfl) hka (bD _)
  (λk e l' hl' e'=>by
   refine xE (getElem?_of_mem hl') λi hi=>?_
   have:=g_lt hG S hi e';cases e;exact Nat.lt_irrefl _ this)
  (by
   show C.GR _ _ _ _
   rw[hG.gr]
   exact⟨s.gens.size,.str G.fd.name s1.toks,.str G.fd.qualname (s1.toks+1),rfl,by rw[<-hgs];exact Heap.get?_push_size _ rfl,hLne,⟨m,hns.keeps keepG,λx hx=>(hm x hx).mono (prefix_append _ _) (dX keepG)⟩,by rw[hgs];simp;rfl⟩)
 exact⟨SN.1,SN.2 _,VR.ref (l:=⟨s1.heap.objs.size,s.heap.objs.size,some s.gens.size⟩) S.last,q⟩
theorem jN{G:GSh}(hG:GCx C G){H:MH}{ρ:List Lc}{s:Shared}{gi:Nat}{l:Lc}{gn:Gn}(S:Sim C H ρ s)(hl:ρ[gi]? =some l)(hH:H[gi]? =some (.gen gn)):∃ k,s.heap.IsGen l.a k:=by
 have o:eJ G ρ s l gn:=by have:=S.objs gi _ l hH hl;rw[<-hG.gr];exact this
 refine fF o λgk nm qn hg ho hm=>?_
 exact⟨gk,_,nm,qn,ho,rfl,rfl,rfl⟩
theorem y9{g:GFn}{gi:Nat}{H:MH}{Q:Option V->MH->Prop}(e:g.nx gi H Q):∃ gn,H[gi]? =some (.gen gn):=e.elim λgn h _=>⟨gn,aAw h⟩
inductive GnM{C:Cx}(ρ:List Lc)(s:Shared)(gi:Nat):Value->(Addr->Prop)->Prop
 |mk {l k} (h1:ρ[gi]? =some l) (h2:s.heap.IsGen l.a k):GnM ρ s gi (.ref l.a) (λ_=>False)
def l7{G:GSh}{g:GFn}(hG:GCx C G)(r0:Nat)(VV:∀ L,GV C r0 G g (G.envL L)):ItK C where
 σ:=Nat
 nx:=λgi H Q=>g.nx gi H λo H'=>Q (o.map λv=>(v,gi)) H'
 rel:=λρ s gi x X=>∃ l,ρ[gi]? =some l/\x= .ref l.a/\X=λ_=>False
 mid:=λρ s gi u x X=>GnM (C:=C) ρ s gi x X
 tg:=λ_=>True
 need:=r0+2
 mono:=λ⟨l,h1,h2,h3⟩ e i hk=>⟨l,aO e h1,h2,h3⟩
 alive:=λ⟨l,h1,h2,h3⟩ b hb=>by subst h3;exact hb.elim
 next:=by
  rintro A s ρ H gi x X Q r hnd hr S ⟨l,hl,rfl,rfl⟩ hX e
  have hr':Room (r0+2) A:=by
   refine xAA hr λh1 h2 h3=>?_
   exact⟨h1,A40 hnd h2,A41 hnd h3⟩
  have nxi:∀ {ρ' s'},Nx ρ noW s ρ' s'->NxI ρ (λ_=>False) s ρ' s':=λN=>⟨N.pre,N.new,N.kp,N.imm,λb o e _=>N.al b o e⟩
  refine wmN (aA0 hG VV hr' S hl e) λo s' p=>?_
  cases p with
  |item S' N' r' hg q=>
   refine xE hg λgn hH=>?_
   refine xE (jN hG S' (aO N'.pre hl) hH) λk hk=>?_
   exact .item S' (nxi N') r' (.mk (aO N'.pre hl) hk) q
  |done S' N' q=>exact .done S' (nxi N') q
 lgo:=by
  rintro A s ρ H it x X u target r hr S M _ hX
  cases M with
  |mk h1 h2=>
   refine fF h2 λo nm qn h2 h3 _=>?_
   exact iI (T:="generator") h2 h3 (by decide) ⟨S,.refl,_,h1,rfl,rfl⟩
theorem gR.gen{G:GSh}{g:GFn}(hG:GCx C G){r0:Nat}(VV:∀ L,GV C r0 G g (G.envL L)):gR (l7 hG r0 VV):=by
 rintro A s ρ H it x X Q S ⟨y,hy⟩ ⟨l,h1,rfl,rfl⟩ h
 refine xE (y9 hy) λgn hH=>?_
 refine xE (jN hG S h1 hH) λk hk=>?_
 exact wpAny_pyIter_gen hk h
def iG(f:EF):Lo->MH->(Nat->MH->Prop)->Prop:=λlo H Q=>f lo H λv H1=>Lf v.rf λi=>(∃ gn,H1[i]? =some (.gen gn))/\Q i H1
theorem IV.gen{G:GSh}{g:GFn}(hG:GCx C G){r0:Nat}(VV:∀ L,GV C r0 G g (G.envL L)){e:Expr}{f:EF}(h:EV C r env e f):IV (l7 hG r0 VV) r env e (iG f):=λ_ _ _ _ _ _ hr S F q=>h.run hr S F q λS1 N1 r1 q=>q.elim λi hi q=>by
  refine cX (r1.toRef hi) λl _ z105 g1=>?_;subst z105
  refine xA q λz106 q=>?_;obtain⟨gn,hH⟩:=z106
  refine xE (jN hG S1 g1 hH) λk hk=>?_
  exact wpAny_pyIter_gen hk ⟨S1,N1,⟨l,g1,rfl,rfl⟩,λb hb=>hb.elim,q⟩
def eU(K:ItK C)(ai:Nat):Nat->K.σ->MH->(MH->Prop)->Prop
 |0,_,_,_=>False
 |n+1,it,H,Q=>K.nx it H λres H1=>match res with
  |none=>Q H1
  |some p=>Lf (H1[ai]?.bind MO.own) λvs=>vs.length<1000000/\eU K ai n p.2 (H1.set ai (.list (vs++[p.1]))) Q
inductive XEnd(C:Cx)(ρ0:List Lc)(s0:Shared)(ai:Nat)(l:Lc)(Q:MH->Prop)(s':Shared):Prop
 |mk {ρ' H'} (S:Sim C H' ρ' s') (N:Nx ρ0 noW s0 ρ' s') (hl:ρ'[ai]? =some l) (q:Q H'):XEnd C ρ0 s0 ai l Q s'
theorem sA{K:ItK C}{ai:Nat}{l:Lc}{res:Value}(hneed:K.need<=r)(hlg:∀ {ρ s it x X u},K.mid ρ s it u x X->K.rel ρ s it x X):∀ (n:Nat){A:Around}{s0 s:Shared}{ρ0 ρ:List Lc}{H:MH}{it:K.σ}{x:Value}{X:Addr->Prop}{Q:MH->Prop},Room r A.in1->ρ[ai]? =some l->Nx ρ0 noW s0 ρ s->Sim C H ρ s-> K.rel ρ s it x X->(∀ b,X b->s0.heap.get? b=none/\¬Own ρ b/\C.base.heap.get? b=none)->eU K ai n it H Q-> codeAny C.M A (.builtin "list.extend.loop" ⟨[.ref l.a,x,res],[]⟩) (λrr s'=>rr= .ok (.ret res)/\XEnd C ρ0 s0 ai l Q s') s
 |0,_,_,_,_,_,_,_,_,_,_,_,_,_,_,_,_,e=>e.elim
 |n+1,A,s0,s,ρ0,ρ,H,it,x,X,Q,hr,hl,N,S,R,hX,e=>by
  refine codeAny_builtin PySem.F.entry_extend_loop ?_
  rw[Around.under_plainId PySem.F.plain_extend_loop _]
  show wpAny _ A.in1 (pyNext x >>=_) _ _ s
  refine zzB (wmN (K.next hneed hr S R (λb q=>⟨(hX b q).2.1,(hX b q).2.2⟩) e) λo s1 p=>?_)
  cases p with
  |done S1 I1 q=>exact zzP ⟨rfl,S1,N.stepI I1 (λb q=>(hX b q).1),aO I1.pre hl,q⟩
  |item S1 I1 ru R1 q=>
   refine q.elim λvs hv q=>?_
   refine xEE (iZ S1 (aO I1.pre hl) (lZ hv)) λxs nn O=>?_
   have hsz:=O.r.sz
   have hlen:=q.1
   have hz:xs.size<=sizeLine:=by rw[sizeLine_eq];exact A33 hsz hlen
   have hX1:∀ b,X b->¬Own _ b:=λb q=>let ⟨o',e'⟩:=K.alive R b q;I1.owns e' (hX b q).2.1
   show wpAny _ A.in1 (updateSeq l.a (·.push _) >>=_) _ _ s1
   refine zzB (wpAny_updateSeq O.x rfl (zzP ?_) hz (by rw[Array.size_push];exact succ_le_succ hz))
   have st:=O.put (k:=s1.toks) S1 (λxs=>xs.push _) (by simpa using O.r.append (.cons ru .nil))
   have N2:Nx _ noW s1 _ _:=st.2 noW
   exact⟨plainId_quiet PySem.F.plain_extend_loop _,sA hneed hlg n hr (aO I1.pre hl) ((N.stepI I1 (λb q=>(hX b q).1)).trans N2) st.1 (K.mono (hlg R1) N2.pre N2.imm (λb o q e'=>N2.kp b o e' (hX1 b q) (λz=>z))) (λb q=>⟨(hX b q).1,hX1 b q,(hX b q).2.2⟩) q.2⟩
theorem nil_of{ρ:List Lc}{h:Heap}{xs:Array Value}(r:VRs ρ h xs.toList []):xs= #[]:=Array.eq_empty_of_size_eq_zero r.sz
theorem l6{H:MH}{ρ:List Lc}{s:Shared}{la:Lc}{vs:List V}(S:Sim C (H++[.list vs]) ρ s)(hla:ρ[H.length]? =some la):∃ xs n,iV (H++[.list vs]) ρ s H.length la vs xs n:=iZ S hla (by simp)
theorem l5{H:MH}{ρ:List Lc}{s:Shared}{la:Lc}{vs vs':List V}{xs:Array Value}{n:Nat}(S:Sim C (H++[.list vs]) ρ s)(O:iV (H++[.list vs]) ρ s H.length la vs xs n)(f:Array Value->Array Value)(hv:VRs ρ s.heap (f xs).toList vs'):Sim C (H++[.list vs']) ρ {s with heap:=s.heap.update la.a (Obj.mapSeq f)}/\Nx ρ noW s ρ {s with heap:=s.heap.update la.a (Obj.mapSeq f)}:=by
 have st:=O.put (k:=s.toks) S f hv
 have e3:(H++[MO.list vs]).set H.length (MO.list vs')=H++[MO.list vs']:=by simp
 rw[e3]at st
 exact⟨st.1,st.2 _⟩
theorem nW{K:ItK C}{T:String}(hneed:K.need<=r)(hlg:∀ {ρ s it x X u},K.mid ρ s it u x X->K.rel ρ s it x X)(hT1:(Value.type T==Value.type "list")=false)(hT2:(Value.type T==Value.type "tuple")=false)(hno1:typeLookup (.type T) "__len__" =pure none) (hno2:typeLookup (.type T) "__length_hint__" =pure none){n:Nat}{A:Around}{s0 s:Shared}{ρ0 ρ:List Lc}{H:MH}{it:K.σ}{a:Addr}{X:Addr->Prop}{Q:MH->Prop}(hr:Room (r+1) A) (N0:Nx ρ0 noW s0 ρ s) (S:Sim C H ρ s) (R:K.rel ρ s it (.ref a) X) (hX:∀ b,X b->s0.heap.get? b=none/\¬Own ρ b/\C.base.heap.get? b=none) (hty:s.TypeIs (.ref a) T)(hit:∀ {A':Around}{E' Q':Value->Shared->Prop} (s':Shared),s'.heap.get? a=s.heap.get? a->Q' (.ref a) s'->wpAny C.M A' (pyIter (.ref a)) Q' E' s') (e:eU K H.length n it (H++[.list []]) Q):wpAny C.M A (call (.type "list") [.ref a]) (bK C ρ0 s0 λv H'=>v= .ref H.length/\Q H') NoE s:=by
 refine callType_codes (Q₁:=λobj s₁=>obj= .ref s.heap.objs.size/\s₁= {s with heap:=s.heap.push {cls:=.type "list",data:=.seq #[]}}) PySem.F.called_list (PySem.F.typeCall_list_1 _) PySem.F.entry_list_init
  (code_list_new _ ⟨rfl,rfl⟩) λobj s₁ h₁=>?_
 refine xA h₁ λz107 z108=>?_;clear h₁;subst z107;subst z108
 refine xEA hty λoa hoa hca=>?_
 have hS:(s.heap.push {cls:=.type "list",data:=.seq #[]}).get? s.heap.objs.size=some {cls:=.type "list",data:=.seq #[]}:=Heap.get?_push_size _ rfl
 refine⟨⟨_,hS,rfl⟩,PySem.F.args_list_init_2 _ _,?_⟩
 have S1:=S.alloc {cls:=.type "list",data:=.seq #[]} (.list []) ⟨rfl,rfl,#[],0,Heap.get?_push_size _ rfl,.nil⟩
 have N1:Nx ρ noW s _ _:=.alloc {cls:=.type "list",data:=.seq #[]}
 have hla:=S.last (l:=⟨s.heap.objs.size,s.heap.objs.size,none⟩)
 have hne:s.heap.objs.size≠a:=λq=>by have:=Heap.lt_size hoa;rw[q]at this;exact Nat.lt_irrefl _ this
 refine xEE (l6 S1 hla) λxs1 n1 O1=>?_
 have st2:=l5 S1 O1 (λ_=> #[]) (vs':=[]) .nil
 show wpAny _ A.in1.in1 (do let old<-Builtin.List.listItems (.ref s.heap.objs.size);Builtin.List.listUpdate (.ref s.heap.objs.size) (λ_=> #[]);letGo old.toList.reverse;Builtin.List.listExtendWith (.ref s.heap.objs.size) (.ref a) .none) _ _ _
 refine zzB ?_
 unfold Builtin.List.listItems
 refine zzB (wpAny_seqItems hS rfl (zzP ?_))
 show wpAny _ A.in1.in1 (updateSeq s.heap.objs.size (λ_=> #[]) >>=λ_=>letGo (#[]:Array Value).toList.reverse >>=λ_=>Builtin.List.listExtendWith (.ref s.heap.objs.size) (.ref a) .none) _ _ _
 refine zzB (wpAny_updateSeq hS rfl (zzB (wpAny_letGo ?_)))
 have g2:((s.heap.push {cls:=.type "list",data:=.seq #[]}).update s.heap.objs.size (Obj.mapSeq λ_=> #[])).get? a=some oa:=((Heap.SameBut.update ..).2 a (Ne.symm hne)).trans (Heap.get?_push_of_some _ hoa)
 unfold Builtin.List.listExtendWith
 refine zzB (wpAny_typeOf ⟨oa,g2,hca⟩ ?_)
 have h1:Builtin.List.listSameRef (.ref s.heap.objs.size) (.ref a)=false:=by simp only[Builtin.List.listSameRef];simpa using hne
 simp only[h1,hT1,hT2,Bool.or_false,false_eq_true,if_false]
 refine zzB (hit _ (g2.trans hoa.symm) (zzB (wpAny_holding ?_)))
 unfold Builtin.List.listLengthHint
 refine zzB (wpAny_specialOf ⟨oa,g2,hca⟩ hno1 ?_)
 show wpAny _ A.in1.in1 (specialOf (Value.ref a) (Str.ofString "__length_hint__") >>=_) _ _ _
 refine zzB (wpAny_specialOf ⟨oa,g2,hca⟩ hno2 (zzP ?_))
 show wpAny _ A.in1.in1 (rule "list.extend.makes-room" >>=λ_=>Builtin.List.listTouch (.ref s.heap.objs.size) >>=λ_=>
  again (.builtin "list.extend.loop" ⟨[.ref s.heap.objs.size,.ref a,.none],[]⟩)) _ _ _
 refine zzB (wpAny_rule (zzB ?_))
 show wpAny _ A.in1.in1 (updateSeq s.heap.objs.size (·.push .none) >>=λ_=>updateSeq s.heap.objs.size (·.pop)) _ _ _
 refine xEE (l6 st2.1 hla) λxs2 n2 O2=>?_
 have z2:=nil_of O2.r
 subst z2
 have st3:=l5 st2.1 O2 (λxs=>xs.push .none) (vs':=[.none]) (.cons .none .nil)
 refine zzB (wpAny_updateSeq O2.x rfl ?_ (by rw[sizeLine_eq];decide) (by rw[sizeLine_eq];decide))
 refine xEE (l6 st3.1 hla) λxs3 n3 O3=>?_
 have sz3:=O3.r.sz
 have st4:=l5 st3.1 O3 (λxs=>xs.pop) (vs':=[]) (by
  have:xs3.pop.toList= []:=List.eq_nil_of_length_eq_zero (by rw[Array.length_toList,Array.size_pop,sz3];rfl)
  rw[this];exact .nil)
 refine wpAny_updateSeq O3.x rfl ?_ (by rw[sz3,sizeLine_eq];decide) (by rw[Array.size_pop,sz3,sizeLine_eq];decide)
 have N14:=N1.trans (st2.2.trans (st3.2.trans st4.2))
 have hr1:Room r A.in1.in1:=by
  refine xAA hr λh1 h2 h3=>?_
  exact⟨h1,by show A.depth+10*r<=700;exact A42 h2,by show A.units+1+1+40*r<=8000;exact A43 h3⟩
 refine zzP ⟨plainId_quiet PySem.F.plain_extend_loop _,?_⟩
 refine codeAny_mono (sA (l:=⟨s.heap.objs.size,s.heap.objs.size,none⟩) (ρ0:=ρ0) (s0:=s0) hneed hlg n hr1 hla (N0.trans N14) st4.1 (K.mono R N14.pre N14.imm (λb o q e'=>N14.kp b o e' (hX b q).2.1 (λz=>z)))
  (λb q=>⟨(hX b q).1,let ⟨o',e'⟩:=K.alive R b q;N14.own e' (hX b q).2.1,(hX b q).2.2⟩) e) λrr s5 p=>?_
 obtain⟨rfl,S5,N5,hl5,q⟩:=p
 exact⟨rfl,S5,N5,.ref hl5,rfl,q⟩
theorem zS{G:GSh}{g:GFn}{n:Nat}(hG:GCx C G){r0:Nat}(VV:∀ L,GV C r0 G g (G.envL L)){A:Around}{s:Shared}{ρ:List Lc}{H:MH}{gi:Nat}{l:Lc}{gn:Gn}{Q:MH->Prop}(hnd:r0+2<=r)(hr:Room (r+1) A)(S:Sim C H ρ s)(hl:ρ[gi]? =some l)(hH:H[gi]? =some (.gen gn))(e:eU (l7 hG r0 VV) H.length n gi (H++[.list []]) Q):wpAny C.M A (call (.type "list") [.ref l.a]) (bK C ρ s λv H'=>v= .ref H.length/\Q H') NoE s:=by
 refine xE (jN hG S hl hH) λk hk=>?_
 refine nW (K:=l7 hG r0 VV) (T:="generator") hnd (λM=>by cases M with |mk h1 h2=>exact⟨_,h1,rfl,rfl⟩) (by decide) (by decide) PySem.F.gen_no_len PySem.F.gen_no_hint hr .refl S ⟨l,hl,rfl,rfl⟩ (λb hb=>hb.elim) hk.typeIs (λs' h q=>?_) e
 refine gS hk λo nm qn h2 h3=>?_
 exact wpAny_pyIter_gen (g:=k) ⟨o,nm,qn,h.trans h2,h3⟩ q
def isG(H:MH)(vs:List V):Option Nat:=((one vs).bind V.rf).bind λi=>(H[i]?.bind MO.gn).map λ_=>i
def kB(K:ItK C)(σ:Nat->K.σ):CF:=λvs H Q=>match isG H vs with
 |some i=>∃ n,eU K H.length n (σ i) (H++[.list []]) λH'=>Q (.ref H.length) H'
 |none=>cList vs H Q
theorem CV.listG{G:GSh}{g:GFn}(hG:GCx C G){r0:Nat}(VV:∀ L,GV C r0 G g (G.envL L))(hnd:r0+2<=r):CV C (r+1) (.type "list") (kB (l7 hG r0 VV) (λi=>i)):=by
 refine⟨d7,?_⟩
 intro A s ρ H us vs Q hr S rs e
 unfold kB at e
 split at e
 ·rename_i i hi
  refine xE e λn e=>?_
  refine xEA (bind_eq_some_iff.mp hi) λj hj hi=>?_
  refine xEA (map_eq_some_iff.mp hi) λgn hgn z109=>?_;subst z109
  refine xEA (bind_eq_some_iff.mp hj) λv hv hj=>?_
  refine xEA (f9 rs hv) λu z110 ru=>?_;subst z110
  refine cX (ru.toRef hj) λl z111 z112 gl=>?_;subst z111;subst z112
  refine wmN (zS hG VV hnd hr S gl (aAw hgn) e) λx s' p=>?_
  obtain⟨S',N',r',hv',q⟩:=p
  subst hv'
  exact⟨S',N',r',q⟩
 ·exact CV.list.call hr S rs e
end
section
variable {C:Cx}{r:Nat}{env:Env}
structure KCx(C:Cx)(K:Frag):Prop where
 mem:K.In C.base.heap
 makes:makesIn K dJ=true
 init:findIn K (.ref dJ) "__init__" =some (some (.ref 160))
 initT:typeIn K (.ref 160)=some (.type "function")
 callS:specialIn K (.ref dJ) "__call__" =some (some (.builtin "type.__call__"))
 callM:specialIn K (.ref aE) "__call__" =some (some (.builtin "type.__call__"))
 typM:instIn K (.ref aE) (.type "type")=some true
 clsM:∃ oc od cd sl,K.lookup aE=some ⟨oc,od,.cls cd,sl⟩/\cd.mro= [.ref aE,.type "tuple",.type "object"]/\cd.hasDel=false/\cd.hasDict=false/\cd.slotNames= []/\(sl.toList[4]?).join=some .none/\cd.abstract=false/\cd.collection=none
 clsS:∃ oc od cd sl,K.lookup dJ=some ⟨oc,od,.cls cd,sl⟩
 readsM:readsIn K aE (.type "type")=true
 newM:findCls K (.ref aE) (.type "type") "__new__" =some (.get (.builtin "staticmethod.__get__") (.ref 136) .none (.ref aE))
 makeM:findCls K (.ref aE) (.type "type") "_make" =some (.get (.builtin "classmethod.__get__") (.ref 91) .none (.ref aE))
 smM:recIn K 136 "staticmethod" =some [.ref 82]
 cmM:∃ b,recIn K 91 "classmethod" =some [.ref 89,b]
 initM:findIn K (.ref aE) "__init__" =some (some (.builtin "object.__init__"))
 newT:typeIn K (.ref 82)=some (.type "function")
theorem rO{K:Frag}(hK:K.In C.base.heap){c:Addr}(hc:∃ oc od cd sl,K.lookup c=some ⟨oc,od,.cls cd,sl⟩)(hcall:specialIn K (.ref c) "__call__" =some (some (.builtin "type.__call__"))):∀ h:Heap,(∀ b o,C.base.heap.get? b=some o->h.get? b=some o)->∃ k,(k=Keeper.frame\/k=Keeper.machine\/k=Keeper.boundFrame)/\Looks C.M h (keeperOf (.ref c)) k:=by
 intro h hk
 refine xEEEE hc λoc od cd sl e=>?_
 have X:=hK.keeps hk
 refine⟨.machine,.inr (.inl rfl),(Looks.ld (part:=none) (X _ _ e)).andThen ?_⟩
 refine(looks_specialIn X hcall).andThen ?_
 exact Looks.of_pure (by simp)
theorem Room.under_call{A:Around}{c:Addr}{rest:List Value}(hr:Room (r+1) A):Room r (A.under (.builtin "type.__call__" ⟨.ref c::rest,[]⟩)):=by
 refine xAA hr λh1 h2 h3=>?_
 have w1:(Code.builtin "type.__call__" ⟨.ref c::rest,[]⟩).weight=1:=by first |rfl |kernel_rfl
 have w2:(Code.builtin "type.__call__" ⟨.ref c::rest,[]⟩).cUnits=1:=by first |rfl |kernel_rfl
 refine⟨h1,?_,?_⟩
 ·show A.depth+(Code.builtin "type.__call__" ⟨.ref c::rest,[]⟩).weight+10*r<=700
  rw[w1];exact A30 h2
 ·show A.units+(Code.builtin "type.__call__" ⟨.ref c::rest,[]⟩).cUnits+40*r<=8000
  rw[w2];exact A44 h3
def cNew(g:CF):CF:=λvs H Q=>g (.ref H.length::vs) (H++[.inst λ_=>none]) λv H'=>v= .none/\Q (.ref H.length) H'
theorem qU.run{A:Around}{c:Code}{ρ:List Lc}{s s0:Shared}{Q:EK}{R:Result->Shared->Prop}(h:codeAny C.M A c (qU C ρ s Q) s0)(k:∀ {x s' ρ' v H'},Sim C H' ρ' s'->Nx ρ noW s ρ' s'->VR ρ' s'.heap x v->Q v H'->R (.ok (.ret x)) s'):codeAny C.M A c R s0:=codeAny_mono h λrr s' hh=>by
  cases rr with
  |error x=>exact hh.elim
  |ok f=>
   cases f with
   |ret x=>exact let ⟨S,N,r,q⟩:=hh;k S N r q
   |_=>exact hh.elim
theorem CV.sm{K:Frag}(hK:KCx C K){g:CF}(hi:CC C r (.ref 160) g):CV C (r+1) (.ref dJ) (cNew g):=by
 refine⟨rO hK.mem hK.clsS hK.callS,?_⟩
 intro A s ρ H us vs Q hr S rs e
 have X:=hK.mem.keeps S.keep
 obtain⟨h,gg,d,t,os⟩:=s
 refine wpAny_call (make_core (makes_of X hK.makes) (looks_findIn X hK.init) (λself=>bind_fn X self hK.initT) (.inl rfl) ?_)
 have keep:∀ b o,h.get? b=some o->((h.push emptyDict).push (instObj dJ h.objs.size)).get? b=some o:=λb o e=>Heap.get?_push_of_some _ (Heap.get?_push_of_some _ e)
 have hget:((h.push emptyDict).push (instObj dJ h.objs.size)).get? (h.objs.size+1)=some (instObj dJ h.objs.size):=by heap_get
 have hgd:((h.push emptyDict).push (instObj dJ h.objs.size)).get? h.objs.size=some emptyDict:=Heap.get?_push_of_some _ (Heap.get?_push_at rfl rfl)
 have G:=S.grow (l:=⟨h.objs.size+1,h.objs.size,none⟩) (m:=.inst λ_=>none) (k:=t) keep (Heap.get?_none_of_le (le_succ _)) (bD _) rfl ⟨rfl,ne_of_lt (lt_succ_self _),⟨_,hget,rfl,rfl,rfl⟩,λ_=>none,
  Heap.Ns1.of_empty ⟨_,#[],_,hgd,rfl,λe he=>absurd he (by simp),λ_=>rfl⟩,⟨_,hgd,rfl,rfl⟩,λx hx=>absurd rfl hx,λ_=>trivial⟩
 have hl:=S.last (l:=⟨h.objs.size+1,h.objs.size,none⟩)
 exact qU.run (hi (A:=A.under (.builtin "type.__call__" ⟨.ref dJ::us,[]⟩)) hr.under_call G.1 (.cons (.ref hl) (rs.nx (G.2 noW))) e) λS2 N2 r2 q=>by
  refine xA q λq1 q=>?_
  have:=r2.noT (by rw[q1];rfl)
  exact⟨this,S2,(G.2 _).trans N2,.ref (aO N2.pre hl),q⟩
theorem yU(a b c d:Value):argsOk "object.__init__" ⟨[a,b,c,d],[]⟩:=by unfold argsOk;kernel_rfl
noncomputable abbrev o0(i j k:Value)(n:Nat)(dd:Option Addr):Obj:= {cls:=.ref aE,dict:=dd,data:=.seq #[i,j,k] n}
def NewM(C:Cx)(r:Nat):Prop:=∀ {A:Around}{s:Shared}{ρ:List Lc}{H:MH}{a b c:Value}{i j k:Int},Room r A->Sim C H ρ s->VR ρ s.heap a (.int i)->VR ρ s.heap b (.int j)->VR ρ s.heap c (.int k)->
 codeAny C.M A (.call (.ref 82) ⟨[.ref aE,a,b,c],[]⟩) (qU C ρ s λv H'=>v= .mat i j k/\H'=H) s
def matF(H:MH)(is:List Int):Option (V×MH):=match is with | [i,j,k]=>some (.mat i j k,H) |_=>none
def tX:CF:=lf λvs H=>(Tis vs).bind (matF H)
theorem VR.toMat{ρ:List Lc}{h:Heap}{u:Value}{v:V}{i j k:Int}(r:VR ρ h u v)(e:v= .mat i j k):∃ a n t1 t2 t3 dd,u= .ref a/\h.get? a=some (o0 (.int i t1) (.int j t2) (.int k t3) n dd):=by
 subst e
 refine jE r.inv λa n t u v dd h1 h2=>?_
 exact⟨a,n,t,u,v,dd,h1,h2⟩
theorem oY{K:Frag}(hK:KCx C K){h:Heap}(X:K.In h):Looks C.M h (mroOf (.ref aE)) [.ref aE,.type "tuple",.type "object"]:=by
 refine oC hK.clsM λoc od cd sl eC hmro _=>?_
 rw[<-hmro]
 exact((Looks.ld (part:=none) (X _ _ eC)).andThen .now).andThen .now
theorem rM{K:Frag}(hK:KCx C K){h:Heap}(X:K.In h):Looks C.M h (Bind.madeBy (.ref aE)) none:=by
 refine fW hK.clsM λoc od cd sl eC hmro hdel hdict hsn hsl habs hcol=>?_
 have hC:=X _ _ eC
 have hm:=oY hK X
 intro A Q E s k q
 unfold Bind.madeBy
 refine zzB (hm A _ E s k ?_)
 rw[forIn_cons]
 refine zzB (zzB (zzB (zzB (wpAny_loadPart (k _ _ hC) (zzP ?_)))))
 dsimp only
 rw[<-Array.getElem?_toList,hsl]
 exact zzP (zzP (zzP q))
theorem pL{K:Frag}(hK:KCx C K){h:Heap}(X:K.In h){T:Value}(hT:T= .ref aE\/T= .type "tuple" \/T= .type "object"):Looks C.M h (isSubtype (.ref aE) T) true:=by
 refine oC hK.clsM λoc od cd sl eC hmro _=>?_
 exact looks_mroIn X (by unfold mroIn clsIn;rw[eC];rcases hT with rfl |rfl |rfl<;>simp [hmro])
set_option maxHeartbeats 1000000 in
theorem CV.mat{K:Frag}(hK:KCx C K)(hn:NewM C r):CV C (r+1) (.ref aE) tX:=by
 refine CV.of (rO hK.mem (hK.clsM.elim λoc h=>h.elim λod h=>h.elim λcd h=>h.elim λsl h=>⟨oc,od,cd,sl,h.1⟩) hK.callM) λ{A s ρ H us vs v H'} hr S rs e=>?_
 refine xEA (bind_eq_some_iff.mp e) λis hi e=>?_
 refine xEA (rs.ints hi) λts hl1 hl2=>?_
 refine sM (aAb (F:=matF H) e rfl (λ_=>rfl) (λ_ _=>rfl) λ_ _ _ _ _=>rfl) λi j k z=>?_;subst z
 ·cases e
  refine sM (ts3 hl1 hl2) λta tb tc z113=>?_;subst z113
  clear rs hi hl1 hl2
  have X:=hK.mem.keeps S.keep
  refine fW hK.clsM λoc od cd sl eC hmro hdel hdict hsn hsl habs hcol=>?_
  have hC:=X _ _ eC
  have call:=looks_specialIn (M:=C.M) X hK.callM
  have typ:=looks_instIn (M:=C.M) X hK.typM
  refine wpAny_call ?_
  obtain⟨h,g,d,t,os⟩:=s
  refine codeAny_of_tree ?_
  show wpAny _ _ (callAny (.ref aE) _) _ _ _
  refine nd_load hC ?_
  show wpAny _ _ (callAny.viaDunder (.ref aE) _) _ _ _
  unfold callAny.viaDunder
  refine zzB (call.at ?_)
  dsimp only
  rw[tc_bind]
  refine zzB (zzP (zzB (zzP ?_)))
  refine zzP (a:=PySem.Fin.again (.call (.builtin "type.__call__") ⟨.ref aE::[.int i ta,.int j tb,.int k tc],[]⟩)) (And.intro rfl ?_)
  refine codeAny_call_builtin_at (Code.quiet_builtin _ (by decide+kernel)) entry_typeCall (check_slot tc_kind tc_split typ (tc_args _ _ _) ?_)
  unfold Builtin.«type.__call__»
  have made:=rM hK X
  have hm:=oY hK X
  have isT:=pL hK X (.inl rfl)
  have lkI:=looks_findIn (M:=C.M) X hK.initM
  have att:∀ {A':Around}{E':Value->Shared->Prop}{Q':Value->Shared->Prop}{b:Bool},Q' (.ref 82) ⟨h,g,d,t+1,os⟩->wpAny C.M A' (getAttr (.ref aE) "__new__" b) Q' E' ⟨h,g,d,t,os⟩:=λhq=>cls_bind X hK.readsM hK.newM (wpAny_call (sm_get (s:=⟨h,g,d,t+1,os⟩) X hK.smM (handed_on (by decide+kernel:handedIn (.ref 82)=true) hq)))
  repeat (first |with_reducible refine att ?_ |simp only[false_eq_true,if_false] |with_reducible refine wpAny_call ?_ |lk)
  refine qU.run (hn (s:=⟨h,g,d,t+1,os⟩) hr.under_call (S.toks _) (.int i ta) (.int j tb) (.int k tc)) λ{x s1 ρ1 v1 H1} S1 N1 r1 q=>?_
  refine xA q λq1 z114=>?_;clear q;subst z114
  refine jE (r1.toMat q1) λx n1 t1 u1 w1 dd1 z115 hx=>?_;subst z115
  rw[q1]at r1
  have X1:=hK.mem.keeps S1.keep
  clear att isT made typ call hm lkI hC X hn
  have tx:Looks C.M s1.heap (typeOf (.ref x)) (.ref aE):=(Looks.ld hx).andThen .now
  have isT1:=pL hK X1 (.inl rfl)
  have lkI:=looks_findIn (M:=C.M) X1 hK.initM
  have made1:=rM hK X1
  have isO:Looks C.M s1.heap (isInstance (.ref x) (.type "object")) true:=tx.andThen (pL hK X1 (.inr (.inr rfl)))
  have hC1:=X1 _ _ eC
  have hm1:=oY hK X1
  have fin:EPo C ρ ⟨h,g,d,t,os⟩ H1 (.mat i j k) (.ref x) s1:=⟨ρ1,S1,(Nx.toks (t+1)).trans N1,r1⟩
  clear S1 N1 S r1 q1 X1
  obtain⟨h1,g1,d1,tt1,os1⟩:=s1
  dsimp only at hx tx isT1 lkI isO hm1 made1 hC1
  unfold isInstance callSpecial? specialOf
  have bi:=Looks.of_pure (M:=C.M) (h:=h1) (oi_bind (.ref x))
  repeat (first |with_reducible refine wpAny_call ?_ |simp only[Bool.not_true,false_eq_true,if_false] |lk)
  refine codeAny_call_builtin oi_plain entry_oi (check_slot oi_kind oi_split isO (yU _ _ _ _) ?_)
  show wpAny _ _ (Builtin.«object.__init__» ⟨[.ref x,.int i ta,.int j tb,.int k tc],[]⟩) _ _ _
  unfold Builtin.«object.__init__»
  repeat (first |simp only[List.isEmpty_cons,Bool.not_false,Bool.not_true,Bool.true_or,bne_self_eq_false,false_eq_true,if_false,if_true] |lk)
  exact fin
end
section
variable {C:Cx}{r:Nat}{env:Env}
theorem aCu:builtinKind "tuple.__new__" =some .builtinFn:=by decide+kernel
theorem xG:splitId "tuple.__new__" =some ("tuple","__new__"):=by decide+kernel
theorem xH:plainId "tuple.__new__" =true:=by decide+kernel
theorem aCv:Builtin.Slots.bestBase [.type "tuple"]=pure (.type "tuple"):=by first |rfl |kernel_rfl
structure qT(M:Model)(h:Heap):Prop where
 obj:∃ oc od cd sl,h.get? aE=some ⟨oc,od,.cls cd,sl⟩/\cd.hasDel=false
 isT:Looks M h (isType (.ref aE)) true
 sub:Looks M h (isSubtype (.ref aE) (.type "tuple")) true
 base:Looks M h (Bind.staticBase (.ref aE)) (.type "tuple")
 init:Looks M h (typeLookup (.ref aE) "__init__") (some (.builtin "object.__init__"))
theorem mfacts{K:Frag}(hK:KCx C K)(hbs:∃ oc od cd sl,K.lookup aE=some ⟨oc,od,.cls cd,sl⟩/\cd.bases= [.type "tuple"]){M:Model}{h:Heap}(X:K.In h):qT M h:=by
 refine fW hK.clsM λoc od cd sl eC hmro hdel hdict hsn hsl habs hcol=>?_
 refine lN hbs λoc' od' cd' sl' eC' hbase=>?_
 rw[eC]at eC'
 cases eC'
 have hC:=X _ _ eC
 have hm:Looks M h (mroOf (.ref aE)) cd.mro:=((Looks.ld (part:=none) hC).andThen .now).andThen .now
 rw[hmro]at hm
 have made:Looks M h (Bind.madeBy (.ref aE)) none:=by
  intro A Q E s k q
  unfold Bind.madeBy
  refine zzB (hm A _ E s k ?_)
  rw[forIn_cons]
  refine zzB (zzB (zzB (zzB (wpAny_loadPart (k _ _ hC) (zzP ?_)))))
  dsimp only
  rw[<-Array.getElem?_toList,hsl]
  exact zzP (zzP (zzP q))
 refine⟨⟨oc,od,cd,sl,hC,hdel⟩,?_,looks_mroIn X (by unfold mroIn clsIn;rw[eC];simp [hmro]),?_,looks_findIn X hK.initM⟩
 ·exact(Looks.ld (part:=some headPart) hC).andThen .now
 ·intro A Q E s k q
  unfold Bind.staticBase
  refine zzB (hm A _ E s k ?_)
  rw[forIn_cons]
  have mt:=PySem.F.called_tuple.made
  dsimp only
  refine zzB (zzB (zzB (made A _ E s k ?_)))
  rw[if_neg (by decide)]
  have hcd:Looks M h (classData aE) cd:=(Looks.ld (part:=none) hC).andThen .now
  refine zzB (hcd A _ E s k ?_)
  show wpAny _ _ (Builtin.Slots.bestBase cd.bases >>=_) _ _ _
  rw[hbase,aCv]
  refine zzB (zzP (zzP ?_))
  dsimp only
  rw[forIn_cons,mt]
  dsimp only
  refine zzB (zzB (zzP ?_))
  rw[if_pos (by decide)]
  exact zzP (zzP (zzP q))
set_option maxHeartbeats 1000000 in
theorem v4{prog:Program}{w:World}{A:Around}{s:Shared}{R:Result->Shared->Prop}{tp:Addr}{xs:Array Value}{n:Nat}(F:∀ h,(∀ b o,s.heap.get? b=some o->h.get? b=some o)->qT (model prog w) h)(hx:s.heap.get? tp=some {cls:=.type "tuple",data:=.seq xs n})(hsz:xs.size<100)
  (h:∀ h' x dd,(∀ b o,s.heap.get? b=some o->h'.get? b=some o)->h'.get? x=some {cls:=.ref aE,dict:=dd,data:=.seq xs}->s.heap.get? x=none->R (.ok (.ret (.ref x))) {s with heap:=h'}):
  codeAny (model prog w) A (.call (.builtin "tuple.__new__") ⟨[.ref aE,.ref tp],[]⟩) R s:=by
 obtain⟨⟨oc,od,cd,sl,hC,hdel⟩,isT,sub,base,init⟩:=F s.heap (λ_ _ e=>e)
 have mt:=PySem.F.called_tuple.made
 refine codeAny_call_builtin xH PySem.F.entry_tuple_new ?_
 obtain⟨hh,g,d,t,os⟩:=s
 dsimp only at*
 delta checkBuiltinCall;dsimp only;rw[aCu,xG];dsimp only
 have col:∀ {A':Around}{E':Value->Shared->Prop}{Q':List Value->Shared->Prop},(∀ h',(∀ b o,hh.get? b=some o->h'.get? b=some o)->Q' xs.toList ⟨h',g,d,t,os⟩)->wpAny (model prog w) A' (collect (.ref tp)) Q' E' ⟨hh,g,d,t,os⟩:=by
  intro A' E' Q' hq
  exact wpAny_collect_seq tp (.inr rfl) hx rfl rfl hq (by rw[sizeLine_eq];exact A2 hsz)
 repeat (first |simp only[Bool.not_true,false_eq_true,if_false,beq_self_eq_true,if_true] | (rw[mt];refine zzP ?_) |with_reducible refine col ?_ |lk)
 intro h1 hk1
 refine zzB (zzP (zzB (wpAny_alloc (zzB ?_))))
 unfold newObj
 dsimp only
 rw[if_neg (by simp [sizeLine_eq];exact A2 hsz)]
 unfold newObjAsIs classHasDel
 have hC1:=hk1 _ _ hC
 refine zzB (wpAny_alloc (zzB (zzB (wpAny_load (Heap.get?_push_of_some _ (Heap.get?_push_of_some _ hC1)) (zzP ?_)))))
 rw[hdel]
 refine zzP (zzP ?_)
 refine h _ _ _ (λb o e=>Heap.get?_push_of_some _ (Heap.get?_push_of_some _ (hk1 b o e))) (by rw[Array.toArray_toList];exact Heap.get?_push_size _ rfl) ?_
 cases q:hh.get? (h1.push {cls:=.type "dict",data:=.dict #[]}).objs.size with
 |none=>rfl
 |some o=>
  have:=Heap.get?_push_of_some {cls:=.type "dict",data:=.dict #[]} (hk1 _ _ q)
  rw[bD]at this;cases this
end
section
variable {C:Cx}{r:Nat}{env:Env}
theorem nil_in(h:Heap):Frag.In [] h:=λ_ _ e=>by cases e
theorem wZ:findCls [] (.type "tuple") (.type "type") "__new__" =some (.val (.builtin "tuple.__new__")):=by first |decide+kernel |kernel_rfl
theorem wW{prog:Program}{w:World}{A:Around}{E:Value->Shared->Prop}{s:Shared}{pl:Sem Bool}{Q:Value×List Value->Shared->Prop}(h:Q (.builtin "tuple.__new__",[]) {s with toks:=s.toks+1}):wpAny (model prog w) A (getMethod (.type "tuple") "__new__" pl) Q E s:=by
 have X:=nil_in s.heap
 have hstub:opaqueClassAbove (.type "tuple")=pure none:=by unfold opaqueClassAbove;dsimp only;rw[show Manifest.isStub "tuple" =false by decide+kernel];rfl
 have ht:typeOf (.type "tuple")=pure (.type "type"):=by first |rfl |kernel_rfl
 have L0:Looks (model prog w) s.heap (typeOf (.type "tuple")) (.type "type"):=Looks.of_pure ht
 have hg:findIn [] (.type "type") "__getattribute__" =some (some (.builtin "type.__getattribute__")):=type_tga
 unfold getMethod specialOf
 refine zzB (zzB (L0.here ((looks_findIn X hg).here ?_)))
 dsimp only
 rw[if_pos canon_tga]
 refine zzB (wpAny_mono (Q:=λv=>Q (v,[])) (E:=E) ?_ (λ_ _ z=>zzP z) λ_ _ z=>z)
 have LO:Looks (model prog w) s.heap (opaqueClassAbove (.type "tuple")) none:=Looks.of_pure hstub
 have hh:handedIn (.builtin "tuple.__new__")=true:=by decide+kernel
 refine cls_open X LO L0 hg (looks_hook X (r:=none) (by rfl)) (by show subIn [] _ _=_;rfl) wZ
  (zzP (by show wpAny _ _ (handedOut (.builtin "tuple.__new__")) _ _ _;rw[handedOut_of hh];exact zzP h))
def V.rw:V->Option Addr | .raw a=>some a |_=>Option.none
theorem VR.toRaw{ρ:List Lc}{h:Heap}{u:Value}{v:V}{a:Addr}(r:VR ρ h u v)(e:v.rw=some a):u= .ref a:=by
 cases v with
 |raw=>cases e;exact r.inv
 |_=>first |exact aG e |cases e
def i3(l:List Int):Option (Int×Int×Int):=match l with | [i,j,k]=>some (i,j,k) |_=>none
theorem i3_ok{l:List Int}{p:Int×Int×Int}(e:i3 l=some p):l= [p.1,p.2.1,p.2.2]:=by
 refine sM (aAb (F:=i3) e rfl (λ_=>rfl) (λ_ _=>rfl) λ_ _ _ _ _=>rfl) λa b c z=>?_;subst z;cases e;rfl
def xJ(vs:List V):Option (List Int):=match vs with | [a,b]=>if a.rw=some 135 then b.tp.bind Tis else none |_=>none
theorem xI{ρ:List Lc}{h:Heap}{us:List Value}{vs:List V}{is:List Int}(r:VRs ρ h us vs)(e:xJ vs=some is):∃ tp xs n ts,us= [.ref 135,.ref tp]/\h.get? tp=some {cls:=.type "tuple",data:=.seq xs n}/\ts.length=is.length/\xs.toList=(is.zip ts).map λx=>Value.int x.1 x.2:=by
 refine xEE (pI (F:=xJ) e rfl (λ_=>rfl) λ_ _ _ _=>rfl) λa b z=>?_;subst z
 replace e:=show (if _ then _ else _)=_ from e
 split at e
 ·rename_i h1
  refine xEA (bind_eq_some_iff.mp e) λws h2 e=>?_
  refine bL r.a2 λu v z116 ru rv=>?_;subst z116
  refine cH (rv.toTup h2) λtp xs n _ z117 g rs=>?_;subst z117
  refine xEA (rs.ints e) λts t1 t2=>?_
  exact⟨tp,xs,n,ts,by rw[ru.toRaw h1],g,t1,t2⟩
 ·exact aG e
def vI(fs:EFs):EF:=λlo H Q=>fs lo H λvs H1=>Lf ((xJ vs).bind i3) λp=>Q (.mat p.1 p.2.1 p.2.2) H1
theorem EV.tnew{np apos pos:Pos}{es:List Expr}{fs:EFs}(F0:∀ h,(∀ b o,C.base.heap.get? b=some o->h.get? b=some o)->qT C.M h)(hg:Glo C "tuple" (.type "tuple"))(hk:env.kindOf "tuple" =some .globalImplicit)(ha:EVs C r env es fs)(hfl:k9 env es)(sh:eX env (.Name "tuple" np) "__new__" apos pos es):EV C r env (.Call (.Attribute (.Name "tuple" np) "__new__" apos) es [] pos) (vI fs):=λA s ρ H lo Q hr S F q=>eD (P:=λ_ _=>True) sh.base sh.few sh.line (j5 hg hk (by decide+kernel) S F λpl=>wW (callWith_of (P:=λh=>∀ b o,C.base.heap.get? b=some o->h.get? b=some o) (by rw[hfl.2];rfl) b6
  (wmN (jS ha hfl hr (S.toks (s.toks+1)) (F.nx (.toks _)) q) λa s1 p=>by
  obtain⟨ps,kw⟩:=a
  obtain⟨hkw,S1,N1,rs,q⟩:=p
  cases hkw
  refine⟨S1.keep,q.elim λp hp q=>?_⟩
  refine xEA (bind_eq_some_iff.mp hp) λis h1 h2=>?_
  refine lM (xI rs h1) λtp xs n ts hps gt t1 t2=>?_
  cases hps
  obtain rfl:=i3_ok h2
  refine sM (ts3 t1 t2) λt u w t3=>?_
  have hx3:xs= #[.int p.1 t,.int p.2.1 u,.int p.2.2 w]:=Array.toList_inj.mp t3
  subst hx3
  exact wpAny_call (v4 (λh hk=>F0 h λb o e=>hk b o (S1.keep b o e)) gt (show 3<100 by decide) λh' x dd hk hx hnx=>⟨S1.extS hk,(Nx.toks _).trans (N1.trans (.ext (k:=s1.toks) hk)),.mat hx,q⟩))))
end
section
variable {C:Cx}{r:Nat}{env:Env}
structure KMx(C:Cx)(K:Frag):Prop where
 toK:KCx C K
 bases:∃ oc od cd sl,K.lookup aE=some ⟨oc,od,.cls cd,sl⟩/\cd.bases= [.type "tuple"]
 iter:findIn K (.ref aE) "__iter__" =some (some (.builtin "tuple.__iter__"))
 len:findIn K (.ref aE) "__len__" =some (some (.builtin "tuple.__len__"))
 lt:findIn K (.ref aE) "__lt__" =some (some (.builtin "tuple.__lt__"))
 tup:subIn K (.ref aE) (.type "tuple")=some true
theorem xU:entryFor table "tuple.__iter__" =some Builtin.«tuple.__iter__»:=entryFor_of_tree ⋯
theorem xQ:entryFor table "tuple.__len__" =some Builtin.«tuple.__len__»:=entryFor_of_tree ⋯
theorem aCy:builtinKind "tuple.__iter__" =some .slot:=by decide+kernel
theorem xS:splitId "tuple.__iter__" =some ("tuple","__iter__"):=by decide+kernel
theorem xT:plainId "tuple.__iter__" =true:=by decide+kernel
theorem aCz(a:Value):argsOk "tuple.__iter__" ⟨[a],[]⟩:=by unfold argsOk;kernel_rfl
theorem aCw:builtinKind "tuple.__len__" =some .slot:=by decide+kernel
theorem xN:splitId "tuple.__len__" =some ("tuple","__len__"):=by decide+kernel
theorem xO:plainId "tuple.__len__" =true:=by decide+kernel
theorem aCx(a:Value):argsOk "tuple.__len__" ⟨[a],[]⟩:=by unfold argsOk;kernel_rfl
theorem ifb{M:Model}{A:Around}{E:Value->Shared->Prop}{s:Shared}{b:Bool}{m:Sem (Value×List Value)}{x:Value×List Value}{Q:Option (Value×List Value)->Shared->Prop}(L:Looks M s.heap m x)(h:Q (some x) s):wpAny M A (if b=true then(do let y<-m;pure (some y)) else(do let y<-m;pure (some y):Sem (Option (Value×List Value))).tryCatch λ_=>do rule "special.get-raises-dropped";pure none) Q E s:=by
 split
 ·exact zzB (L.here (zzP h))
 ·exact wpAny_tryCatch (zzB (L.here (zzP h)))
set_option maxHeartbeats 1000000 in
theorem sU{K:Frag}(hK:KMx C K){A:Around}{E:Value->Shared->Prop}{s:Shared}{a:Addr}{xs:Array Value}{n:Nat}{dd:Option Addr}{Q:Value->Shared->Prop}(X:K.In s.heap)(hx:s.heap.get? a=some {cls:=.ref aE,dict:=dd,data:=.seq xs n})
  (h:Q (.ref s.heap.objs.size) {s with heap:=s.heap.push {cls:=.type "tuple_iterator",data:=.fields #[.ref a,.int 0 0]}}):wpAny C.M A (pyIter (.ref a)) Q E s:=by
 obtain⟨hh,g,d,t,os⟩:=s
 dsimp only at*
 have tx:Looks C.M hh (typeOf (.ref a)) (.ref aE):=(Looks.ld hx).andThen .now
 have L1:=looks_findIn (M:=C.M) X hK.iter
 have isI:Looks C.M hh (isInstance (.ref a) (.type "tuple")) true:=tx.andThen (looks_subIn X hK.tup)
 have bI:=Looks.of_pure (M:=C.M) (h:=hh) (slot_tuple_iter.bind (.ref a))
 unfold pyIter callSpecialIfBoundUnlessNone? specialOf
 repeat (first |with_reducible refine wpAny_call ?_ |lk)
 refine ifb (s:=⟨hh,g,d,t,os⟩) bI ?_
 repeat (first |simp only[show (Value.builtin "tuple.__iter__" ==Value.none)=false from by decide,false_eq_true,if_false] |with_reducible refine wpAny_call ?_ |lk)
 refine codeAny_call_builtin xT xU (check_slot aCy xS isI (aCz _) ?_)
 show wpAny _ _ (do ret (<-newFields "tuple_iterator" [.ref a,rawInt 0])) _ _ _
 refine zzB (wpAny_newObj_type (zzP ?_))
 refine zzP (zzB (zzB (wpAny_typeOf (T:="tuple_iterator") ⟨_,Heap.get?_push_size _ rfl,rfl⟩ ?_)))
 exact wpAny_of_eq slot_tupleiter_next.lookup (zzP h)
theorem i6{prog:Program}{w:World}{A:Around}{E:Value->Shared->Prop}{s:Shared}{it t:Addr}{i:Nat}{items:Array Value}{ol:Obj}{nl:Nat}{x:Value}{Q:Option Value->Shared->Prop}(hit:IsTupIter s.heap it t i)(hol:s.heap.get? t=some ol) (hdl:ol.data= .seq items nl) (hx:items[i]? =some x)(hQ:∀ h',IsTupIter h' it t (i+1)->Heap.SameBut it s.heap h'->Q (some x) {s with heap:=h'}):wpAny (model prog w) A (pyNext (.ref it)) Q E s:=by
 refine cX (id hit) λo ho hc hd=>?_
 unfold pyNext
 refine zzB (wpAny_attempt (wpAny_callSpecial?_slot (name:=Str.ofString "__next__") hit.typeIs slot_tupleiter_next
  (wpAny_call_entry slot_tupleiter_next hit.typeIs entry_tupleiter_next ?_ (args_tupleiter_next _))))
 show wpAny _ _ (field (.ref it) 0 >>=_) _ _ s
 refine zzB (wpAny_field ho hd (x:=.ref t) rfl ?_)
 show wpAny _ _ (if (Value.ref t==Value.none)=true then _ else _) _ _ s
 rw[if_neg (show¬((Value.ref t==Value.none)=true) from Bool.false_ne_true)]
 show wpAny _ _ (field (.ref it) 1 >>=_) _ _ s
 refine zzB (wpAny_field ho hd (x:=.int i 0) rfl ?_)
 show wpAny _ _ (seqItems? (.ref t) >>=_) _ _ s
 refine zzB (wpAny_seqItems hol hdl ?_)
 simp only[toNat_natCast,hx]
 refine zzB (wpAny_setField ho hd (by simp) (zzP ⟨x,rfl,zzP (hQ _ ?_ (Heap.SameBut.update ..))⟩))
 exact⟨_,Heap.get?_update_self _ ho (Obj.isFreed_of_fields (Obj.data_mapFields hd _)),(Obj.cls_mapFields ..).trans hc,by
  rw[Obj.data_mapFields hd];simp [rawInt]⟩
theorem wL{prog:Program}{w:World}{A:Around}{E:Value->Shared->Prop}{s:Shared}{it t:Addr}{i:Nat}{items:Array Value}{ol:Obj}{nl:Nat}{Q:Option Value->Shared->Prop}(hh:A.handled=none)(hit:IsTupIter s.heap it t i) (hol:s.heap.get? t=some ol) (hdl:ol.data= .seq items nl) (hx:items[i]? =none)(hQ:∀ h',Heap.ExtBut it s.heap h'->Q none {s with heap:=h'}):wpAny (model prog w) A (pyNext (.ref it)) Q E s:=by
 refine cX (id hit) λo ho hc hd=>?_
 unfold pyNext
 refine zzB (wpAny_attempt (wpAny_callSpecial?_slot (name:=Str.ofString "__next__") hit.typeIs slot_tupleiter_next
  (wpAny_call_entry slot_tupleiter_next hit.typeIs entry_tupleiter_next ?_ (args_tupleiter_next _))))
 show wpAny _ _ (field (.ref it) 0 >>=_) _ _ s
 refine zzB (wpAny_field ho hd (x:=.ref t) rfl ?_)
 show wpAny _ _ (if (Value.ref t==Value.none)=true then _ else _) _ _ s
 rw[if_neg (show¬((Value.ref t==Value.none)=true) from Bool.false_ne_true)]
 show wpAny _ _ (field (.ref it) 1 >>=_) _ _ s
 refine zzB (wpAny_field ho hd (x:=.int i 0) rfl ?_)
 show wpAny _ _ (seqItems? (.ref t) >>=_) _ _ s
 refine zzB (wpAny_seqItems hol hdl ?_)
 simp only[toNat_natCast,hx]
 refine zzB (wpAny_rule (zzB (wpAny_setField ho hd (by simp) ?_)))
 show wpAny _ _ (newExc (.type "StopIteration") [] >>=_) _ _ _
 refine zzB ?_
 simp only[newExc,newTuple]
 refine zzB (wpAny_newObj_type ?_ (by size_fits))
 refine zzB (m:=firstArgMember _ _) (wpAny_of_eq (a:=Value.none) (by first |rfl | (simp only[firstArgMember];rfl)) ?_)
 refine wpAny_newObj_type ?_ (by size_fits)
 delta raiseNew;dsimp only
 refine zzB (wpAny_handled ?_)
 first |rw[show A.in1.handled=none from hh] |rw[hh]
 refine zzB (zzP (wpAny_throw ?_))
 refine zzB (wpAny_isInstance (T:="StopIteration") (b:=true) ⟨_,Heap.get?_push_size _ rfl,rfl⟩ isSubtype_stop ?_)
 exact zzP (hQ _ (((Heap.SameBut.update ..).extBut.push _).push _))
theorem sP{K:Frag}(hK:KMx C K){A:Around}{E:Value->Shared->Prop}{s:Shared}{a:Addr}{x y z:Value}{n:Nat}{dd:Option Addr}{targets:List (Bool×(Value->Sem Unit))}{Q:Unit->Shared->Prop}(hh:A.handled=none)(X:K.In s.heap)(hx:s.heap.get? a=some {cls:=.ref aE,dict:=dd,data:=.seq #[x,y,z] n}) (hn:targets.length=3) (hstar:targets.findIdx? (·.1)=none)
  (h:∀ h',(∀ b o,s.heap.get? b=some o->h'.get? b=some o)->wpAny C.M A (assignInOrder (targets.map (·.2)) [x,y,z]) Q E {s with heap:=h'}):wpAny C.M A (unpack (.ref a) targets) Q E s:=by
 unfold unpack
 rw[hn,hstar]
 refine zzB (wpAny_holding ?_)
 unfold unpackItems
 have tx:Looks C.M s.heap (typeOf (.ref a)) (.ref aE):=(Looks.ld hx).andThen .now
 have L1:=looks_findIn (M:=C.M) X hK.iter
 refine zzB ?_
 unfold notIterableAtAll specialOf
 refine zzB (zzB (tx.here (L1.here ?_)))
 refine zzP ?_
 simp only[false_eq_true,if_false]
 refine zzB (wpAny_holding (sU hK X hx ?_))
 have hne:a≠s.heap.objs.size:=ne_of_lt (Heap.lt_size hx)
 have hit0:IsTupIter (s.heap.push {cls:=.type "tuple_iterator",data:=.fields #[.ref a,.int 0 0]}) s.heap.objs.size a 0:=⟨_,Heap.get?_push_size _ rfl,rfl,rfl⟩
 have hx0:=Heap.get?_push_of_some {cls:=.type "tuple_iterator",data:=.fields #[.ref a,.int 0 0]} hx
 refine zzB (wpAny_holding ?_)
 show wpAny _ _ (pyNext _ >>=_) _ _ _
 refine zzB (i6 (s:= {s with heap:=s.heap.push {cls:=.type "tuple_iterator",data:=.fields #[.ref a,.int 0 0]}}) hit0 hx0 rfl (x:=x) rfl λh1 hit1 hs1=>?_)
 have hx1:=hs1.extBut a _ hne hx0
 refine zzB (wpAny_holding ?_)
 show wpAny _ _ (pyNext _ >>=_) _ _ _
 refine zzB (i6 (s:= {s with heap:=h1}) hit1 hx1 rfl (x:=y) rfl λh2 hit2 hs2=>?_)
 have hx2:=hs2.extBut a _ hne hx1
 refine zzB (wpAny_holding ?_)
 show wpAny _ _ (pyNext _ >>=_) _ _ _
 refine zzB (i6 (s:= {s with heap:=h2}) hit2 hx2 rfl (x:=z) rfl λh3 hit3 hs3=>?_)
 have hx3:=hs3.extBut a _ hne hx2
 refine zzB (wpAny_holding ?_)
 show wpAny _ _ (pure []) _ _ _
 refine zzP (zzP (zzP (zzP ?_)))
 rw[if_neg (by simp)]
 refine zzB (wpAny_holding (wL (s:= {s with heap:=h3}) hh hit3 hx3 rfl rfl λh4 he4=>?_))
 simp only[Option.isSome_none,false_eq_true,if_false]
 refine zzP (h h4 λb o e=>?_)
 have hb:b≠s.heap.objs.size:=ne_of_lt (Heap.lt_size e)
 exact he4 b o hb (hs3.extBut b o hb (hs2.extBut b o hb (hs1.extBut b o hb (Heap.get?_push_of_some _ e))))
def V.mt:V->Option (Int×Int×Int) | .mat i j k=>some (i,j,k) |_=>Option.none
theorem mt_ok{v:V}{p:Int×Int×Int}(e:v.mt=some p):v= .mat p.1 p.2.1 p.2.2:=by
 cases v with
 |mat=>cases e;rfl
 |_=>first |exact aG e |cases e
def b3(n:Nat)(g:AFs):AF:=λv lo H Q=>match v.mt with
 |some p=>n=3/\g [.int p.1,.int p.2.1,.int p.2.2] lo H Q
 |none=>t5 n g v lo H Q
theorem AV.tupleM{K:Frag}(hK:KMx C K){ts:List Expr}{k:Nat}{pos}{n:Nat}{g:AFs}(h:AVs C r env ts g)(hn:(assignEach ts env).length=n)(hstar:(assignEach ts env).findIdx? (·.1)=none):AV C r env (.Tuple ts k pos) (b3 n g):=by
 intro A s ρ H lo u v Q hr S F rv e
 unfold b3 at e
 split at e
 ·rename_i p hp
  obtain⟨h3,e⟩:=e
  subst h3
  obtain⟨a,n,t1,t2,t3,dd,rfl,hx⟩:=rv.toMat (mt_ok hp)
  rw[assign_Tuple]
  refine zzB (wpAny_standAt (sP hK hr.1 (hK.toK.mem.keeps S.keep) hx hn hstar λh' hk=>?_))
  exact wmN (h hr (S.extS hk) (F.nx (.ext (k:=s.toks) hk)) (.cons (.int _ _) (.cons (.int _ _) (.cons (.int _ _) .nil))) e) λ_ _ p=>p.from (Nx.ext (k:=s.toks) hk)
 ·exact AVW.tuple h hn hstar hr S F rv e
def d5:CF:=λvs H Q=>match (one vs).bind V.mt with
 |some _=>Q (.int 3) H
 |none=>cLen vs H Q
end
section
variable {C:Cx}{r:Nat}{env:Env}
set_option maxHeartbeats 1000000 in
theorem qP{K:Frag}(hK:KMx C K){A:Around}{E:Value->Shared->Prop}{s:Shared}{a:Addr}{xs:Array Value}{n:Nat}{dd:Option Addr}{Q:Value->Shared->Prop}(X:K.In s.heap)(hx:s.heap.get? a=some {cls:=.ref aE,dict:=dd,data:=.seq xs n})(hfit:(xs.size:Int)<2 ^ 63)
  (h:Q (.int xs.size (s.toks+1)) {s with toks:=s.toks+1+1}):wpAny C.M A (call (.builtin "len") [.ref a]) Q E s:=by
 refine call_function_entry kind_len plain_len entry_len (args_len1 _) ?_
 unfold Builtin.«len»
 refine zzB (m:=oneArg "len" _) (zzP ?_)
 have tx:Looks C.M s.heap (typeOf (.ref a)) (.ref aE):=(Looks.ld hx).andThen .now
 have L1:=looks_findIn (M:=C.M) X hK.len
 have isI:Looks C.M s.heap (isInstance (.ref a) (.type "tuple")) true:=tx.andThen (looks_subIn X hK.tup)
 have bI:=Looks.of_pure (M:=C.M) (h:=s.heap) (slot_tuple_len.bind (.ref a))
 have key:∀ {A':Around}{E':Value->Shared->Prop}{Q':Option Value->Shared->Prop},Q' (some (.int xs.size s.toks)) {s with toks:=s.toks+1}->wpAny C.M A' (callSpecial? (.ref a) "__len__") Q' E' s:=by
  intro A' E' Q' hq
  unfold callSpecial? specialOf
  refine zzB (zzB (tx.here (L1.here ?_)))
  dsimp only
  refine wpAny_holding (zzB (bI.here ?_))
  refine zzB (wpAny_call ?_)
  refine codeAny_call_builtin xO xQ (check_slot aCw xN isI (aCx _) ?_)
  show wpAny _ _ (do let ts<-Builtin.Tuple.tupleItemsOf (.ref a);retInt ts.size) _ _ s
  unfold Builtin.Tuple.tupleItemsOf
  refine zzB (zzB (wpAny_seqItems hx rfl (zzP (zzB (wpAny_mkInt (zzP (zzP hq)))))))
 refine zzB (key ?_)
 refine zzB (wpAny_holding (zzP ?_))
 refine zzB (wpAny_letGo ?_)
 rw[if_neg A14,if_neg (A45 hfit)]
 exact zzB (wpAny_mkInt (zzP ⟨_,rfl,h⟩))
theorem CV.lenM{K:Frag}(hK:KMx C K):CV C r (.builtin "len") d5:=by
 refine⟨b6,?_⟩
 intro A s ρ H us vs Q hr S rs e
 unfold d5 at e
 split at e
 ·rename_i p hp
  refine xEA (bind_eq_some_iff.mp hp) λv hv hp=>?_
  refine xEA (f9 rs hv) λu z119 ru=>?_;subst z119
  refine jE (ru.toMat (mt_ok hp)) λa n t1 t2 t3 dd z120 hx=>?_;subst z120
  exact qP hK (hK.toK.mem.keeps S.keep) hx (by simp) (.tok (k:=s.toks+1+1) S (.int _ _) e)
 ·exact CV.len.call hr S rs e
end
section
variable {C:Cx}{r:Nat}{env:Env}
theorem tB:typeLookup (.type "map") "__len__" =pure none:=by rw[typeLookup_type,builtinLookup_eq_fast];kernel_rfl
theorem rJ:typeLookup (.type "map") "__length_hint__" =pure none:=by rw[typeLookup_type,builtinLookup_eq_fast];kernel_rfl
theorem zK:Slot "map" "__init__" "object.__init__" :=.of (owner:="object") (n:="__init__") (by rw[typeLookup_type,builtinLookup_eq_fast];kernel_rfl) (by decide+kernel) (by decide+kernel) (by decide+kernel)
  (by first |exact .inl (by decide+kernel) |exact .inr (by decide+kernel)) (by rw[isSubtype_type];kernel_rfl)
theorem hU:Slot "map" "__next__" "map.__next__" :=.of (owner:="map") (n:="__next__") (by rw[typeLookup_type,builtinLookup_eq_fast];kernel_rfl) (by decide+kernel) (by decide+kernel) (by decide+kernel)
  (by first |exact .inl (by decide+kernel) |exact .inr (by decide+kernel)) (by rw[isSubtype_type];kernel_rfl)
theorem rK:Slot "map" "__iter__" "map.__iter__" :=.of (owner:="map") (n:="__iter__") (by rw[typeLookup_type,builtinLookup_eq_fast];kernel_rfl) (by decide+kernel) (by decide+kernel) (by decide+kernel)
  (by first |exact .inl (by decide+kernel) |exact .inr (by decide+kernel)) (by rw[isSubtype_type];kernel_rfl)
theorem hO:entryFor table "map.__next__" =some Builtin.«map.__next__»:=entryFor_of_tree ⋯
theorem iP(a:Value):argsOk "map.__next__" ⟨[a],[]⟩:=by unfold argsOk;kernel_rfl
theorem l3:entryFor table "map.__iter__" =some Builtin.«dict_keyiterator.__iter__»:=entryFor_alias (id':="dict_keyiterator.__iter__") (by rw[fastTable_eq_tree];kernel_rfl) (by first |rfl |decide+kernel) (by decide+kernel) (by rw[fastTable_eq_tree];kernel_rfl)
theorem mX(a:Value):argsOk "map.__iter__" ⟨[a],[]⟩:=by unfold argsOk;kernel_rfl
theorem uV:mroOf (.type "map")=pure [.type "map",.type "object"]:=by rw[mroOf_type];kernel_rfl
theorem zJ:typeLookup (.type "map") "__new__" =pure (some (.builtin "map.__new__")):=by rw[typeLookup_type,builtinLookup_eq_fast];kernel_rfl
theorem tC:TypeCalled "map" "map.__new__" "object.__init__" :=⟨by decide+kernel,by decide+kernel,⟨_,_,uV⟩,madeBy_type uV zJ (by decide+kernel),by decide+kernel,by rw[isSubtype_type];kernel_rfl,zK⟩
theorem wS(a b:Value):checkTypeCall "map" ⟨[a,b],[]⟩=pure ():=by rfl'
theorem wT(a b:Value):checkBuiltinCall "map.__new__" ⟨[.type "map",a,b],[]⟩=pure ():=by rfl'
theorem mW:entryFor table "map.__new__" =some Builtin.«map.__new__»:=entryFor_of_tree ⋯
theorem aDu:isSubtype (.type "map") (.type "map")=pure true:=by rw[isSubtype_type];kernel_rfl
end
section
variable {C:Cx}{r:Nat}{env:Env}
noncomputable abbrev zM(h:Heap)(l:Addr):Heap:=h.push {cls:=.type "list_iterator",data:=.fields #[.ref l,.int 0 0]}
noncomputable abbrev uW(h:Heap)(l:Addr):Heap:=(zM h l).push {cls:=.type "tuple",data:=.seq #[.ref h.objs.size]}
noncomputable abbrev zL(h:Heap)(f:Value)(l:Addr):Heap:=(uW h l).push {cls:=.type "map",data:=.fields #[.ref (zM h l).objs.size,f]}
theorem mV(f:Value)(l:Addr)(xs:Array Value):Meets (Builtin.«map.__new__» ⟨[.type "map",f,.ref l],[]⟩) (λ_ R s=>s.heap.IsList l xs/\R (.ok (.ret (.ref (uW s.heap l).objs.size))) {s with heap:=zL s.heap f l}):=.of_wp λprog w A R s h=>by
  obtain⟨hp,g,d,tk,os⟩:=s;refine xA h λhl1 h=>?_
  have hsub:=aDu
  have hL1:Heap.IsList (Shared.heap ⟨hp,g,d,tk,os⟩) l xs:=hl1
  wp_walk using wpAny_pyIter_list hL1
  exact⟨_,rfl,h⟩
theorem aB7{prog:Program}{w:World}{A:Around}{E:Value->Shared->Prop}{s:Shared}{f:Value}{l:Addr}{xs:Array Value}{Q:Value->Shared->Prop}(hl:s.heap.IsList l xs)(h:Q (.ref (uW s.heap l).objs.size) {s with heap:=zL s.heap f l}):wpAny (model prog w) A (call (.type "map") [f,.ref l]) Q E s:=by
 refine callType_new tC (by decide) (wS _ _) (wT _ _) (λobj=>PySem.F.args_object_init_3 obj _ _) mW (mV f l xs) ⟨hl,?_⟩
 exact⟨⟨_,Heap.get?_push_size _ rfl,rfl⟩,h⟩
theorem i7{prog:Program}{w:World}{A:Around}{E:Value->Shared->Prop}{s:Shared}{it l:Addr}{i:Nat}{items:Array Value}{x:Value}{Q:Option Value->Shared->Prop}(hit:s.heap.IsListIter it l i)(hl:s.heap.IsList l items) (hx:items[i]? =some x)(hQ:∀ h',h'.IsListIter it l (i+1)->Heap.SameBut it s.heap h'->Q (some x) {s with heap:=h'}):wpAny (model prog w) A (callSpecial? (.ref it) "__next__") Q E s:=by
 refine cX (id hit) λo ho hc hd=>?_
 refine t9 hl λol hol _ nl hdl=>?_
 refine wpAny_callSpecial?_slot (name:=Str.ofString "__next__") hit.typeIs slot_listiter_next
  (wpAny_call_entry slot_listiter_next hit.typeIs entry_listiter_next ?_ (args_listiter_next _))
 show wpAny _ _ (field (.ref it) 0 >>=_) _ _ s
 refine zzB (wpAny_field ho hd (x:=.ref l) rfl ?_)
 show wpAny _ _ (if (Value.ref l==Value.none)=true then _ else _) _ _ s
 rw[if_neg (show¬((Value.ref l==Value.none)=true) from Bool.false_ne_true)]
 show wpAny _ _ (field (.ref it) 1 >>=_) _ _ s
 refine zzB (wpAny_field ho hd (x:=.int i 0) rfl ?_)
 show wpAny _ _ (seqItems? (.ref l) >>=_) _ _ s
 refine zzB (wpAny_seqItems hol hdl ?_)
 simp only[toNat_natCast,hx]
 refine zzB (wpAny_setField ho hd (by simp) (zzP ⟨x,rfl,hQ _ ?_ (Heap.SameBut.update ..)⟩))
 exact⟨_,Heap.get?_update_self _ ho (Obj.isFreed_of_fields (Obj.data_mapFields hd _)),(Obj.cls_mapFields ..).trans hc,by
  rw[Obj.data_mapFields hd];simp [rawInt]⟩
theorem jL{prog:Program}{w:World}{A:Around}{E:Value->Shared->Prop}{s:Shared}{it l:Addr}{i:Nat}{items:Array Value}{Q:Option Value->Shared->Prop}(hh:A.handled=none)(hit:s.heap.IsListIter it l i) (hl:s.heap.IsList l items) (hx:items[i]? =none)(hE:∀ h' y,(∃ o,h'.get? y=some o/\o.cls= .type "StopIteration")->Heap.ExtBut it s.heap h'->E (.ref y) {s with heap:=h'}):wpAny (model prog w) A (callSpecial? (.ref it) "__next__") Q E s:=by
 refine cX (id hit) λo ho hc hd=>?_
 refine t9 hl λol hol _ nl hdl=>?_
 refine wpAny_callSpecial?_slot (name:=Str.ofString "__next__") hit.typeIs slot_listiter_next
  (wpAny_call_entry slot_listiter_next hit.typeIs entry_listiter_next ?_ (args_listiter_next _))
 show wpAny _ _ (field (.ref it) 0 >>=_) _ _ s
 refine zzB (wpAny_field ho hd (x:=.ref l) rfl ?_)
 show wpAny _ _ (if (Value.ref l==Value.none)=true then _ else _) _ _ s
 rw[if_neg (show¬((Value.ref l==Value.none)=true) from Bool.false_ne_true)]
 show wpAny _ _ (field (.ref it) 1 >>=_) _ _ s
 refine zzB (wpAny_field ho hd (x:=.int i 0) rfl ?_)
 show wpAny _ _ (seqItems? (.ref l) >>=_) _ _ s
 refine zzB (wpAny_seqItems hol hdl ?_)
 simp only[toNat_natCast,hx]
 refine zzB (wpAny_rule (zzB (wpAny_setField ho hd (by simp) ?_)))
 show wpAny _ _ (newExc (.type "StopIteration") [] >>=_) _ _ _
 refine zzB ?_
 simp only[newExc,newTuple]
 refine zzB (wpAny_newObj_type ?_ (by size_fits))
 refine zzB (m:=firstArgMember _ _) (wpAny_of_eq (a:=Value.none) (by first |rfl | (simp only[firstArgMember];rfl)) ?_)
 refine wpAny_newObj_type ?_ (by size_fits)
 delta raiseNew;dsimp only
 refine zzB (wpAny_handled ?_)
 rw[show A.in1.handled=none from hh]
 refine zzB (zzP (wpAny_throw ?_))
 exact hE _ _ ⟨_,Heap.get?_push_size _ rfl,rfl⟩ (((Heap.SameBut.update ..).extBut.push _).push _)
structure sL(h:Heap)(z TI it m l:Addr)(k:Nat):Prop where
 z:h.get? z=some {cls:=.type "map",data:=.fields #[.ref TI,.ref m]}
 TI:h.get? TI=some {cls:=.type "tuple",data:=.seq #[.ref it]}
 it:h.IsListIter it l k
 m:h.get? m=some (methodObj (.ref 89) (.ref aE))
theorem zI{prog:Program}{w:World}{A:Around}{E:Value->Shared->Prop}{s:Shared}{z TI it m l:Addr}{k:Nat}{items:Array Value}{x:Value}{Q:Option Value->Shared->Prop}(P:sL s.heap z TI it m l k)(hzi:z≠it)(hTi:TI≠it)(hmi:m≠it)(hl:s.heap.IsList l items) (hx:items[k]? =some x)(hQ:∀ h',sL h' z TI it m l (k+1)->Heap.SameBut it s.heap h'->codeAny (model prog w) A.in1 (.call (.ref 89) ⟨[.ref aE,x],[]⟩) (λrr s'=>match rr with | .ok (.ret v)=>Q (some v) s' |_=>False) {s with heap:=h'}):
  wpAny (model prog w) A (pyNext (.ref z)) Q E s:=by
 have hT:s.TypeIs (.ref z) "map" :=⟨_,P.z,rfl⟩
 unfold pyNext
 refine zzB (wpAny_attempt (wpAny_callSpecial?_slot (name:=Str.ofString "__next__") hT hU (wpAny_call_entry hU hT hO ?_ (iP _))))
 unfold Builtin.«map.__next__»
 refine zzB (m:=slotArgs "__next__" 0 _) (zzP ?_)
 refine zzB (wpAny_field P.z rfl (x:=.ref TI) rfl ?_)
 refine zzB (wpAny_seqItems P.TI rfl ?_)
 dsimp only
 rw[<-Array.forIn_toList]
 show wpAny _ _ (forIn [Value.ref it] #[] _ >>=_) _ _ s
 rw[forIn_cons]
 refine zzB (zzB (zzB (wpAny_holding ?_)))
 unfold Builtin.SmallTypes.nextOf
 refine zzB (i7 P.it hl hx λh1 hit1 hs1=>?_)
 refine zzP (zzP ?_)
 dsimp only
 rw[forIn_nil]
 refine zzP ?_
 have P1:sL h1 z TI it m l (k+1):=⟨hs1.extBut z _ hzi P.z,hs1.extBut TI _ hTi P.TI,hit1,hs1.extBut m _ hmi P.m⟩
 refine zzB (wpAny_field (s:= {s with heap:=h1}) P1.z rfl (x:=.ref m) rfl ?_)
 refine zzB (wpAny_holding (wpAny_call (method_call (s:= {s with heap:=h1}) P1.m ?_)))
 refine codeAny_mono (hQ h1 P1 hs1) ?_
 intro rr s' hr
 cases rr with
 |error e=>exact hr.elim
 |ok f=>
  cases f with
  |ret v=>exact zzB (wpAny_letGo (zzP ⟨v,rfl,zzP hr⟩))
  |_=>exact hr.elim
theorem aDv{prog:Program}{w:World}{A:Around}{E:Value->Shared->Prop}{s:Shared}{z TI it m l:Addr}{k:Nat}{items:Array Value}{Q:Option Value->Shared->Prop}(hh:A.handled=none)(P:sL s.heap z TI it m l k)(hl:s.heap.IsList l items) (hx:items[k]? =none) (hQ:∀ h',Heap.ExtBut it s.heap h'->Q none {s with heap:=h'}):wpAny (model prog w) A (pyNext (.ref z)) Q E s:=by
 have hT:s.TypeIs (.ref z) "map" :=⟨_,P.z,rfl⟩
 unfold pyNext
 refine zzB (wpAny_attempt (wpAny_callSpecial?_slot (name:=Str.ofString "__next__") hT hU (wpAny_call_entry hU hT hO ?_ (iP _))))
 unfold Builtin.«map.__next__»
 refine zzB (m:=slotArgs "__next__" 0 _) (zzP ?_)
 refine zzB (wpAny_field P.z rfl (x:=.ref TI) rfl ?_)
 refine zzB (wpAny_seqItems P.TI rfl ?_)
 dsimp only
 rw[<-Array.forIn_toList]
 show wpAny _ _ (forIn [Value.ref it] #[] _ >>=_) _ _ s
 rw[forIn_cons]
 refine zzB (zzB (zzB (wpAny_holding ?_)))
 unfold Builtin.SmallTypes.nextOf
 refine zzB (jL hh P.it hl hx λh1 y hy he=>?_)
 refine xEA hy λo ho hc=>?_
 refine zzB (wpAny_isInstance (T:="StopIteration") (b:=true) ⟨o,ho,hc⟩ isSubtype_stop ?_)
 exact zzP (hQ h1 he)
theorem Ti_eq{v:V}{i:Int}(e:Ti v=some i):v= .int i:=by
 cases v with
 |int=>cases e;rfl
 |_=>first |exact aG e |cases e
theorem aCk:∀ {vs:List V}{is:List Int},Tis vs=some is->vs=is.map .int
 | [],_,e=>by cases e;rfl
 |v::vs,is,e=>by
  simp only[Tis,mapM_cons,bind_eq_bind,bind_eq_some_iff,pure_def,Option.some.injEq]at e
  refine w8 e λi h1 js h2 z121=>?_;clear e;subst z121
  rw[Ti_eq h1,aCk h2];rfl
def t3(v:V):Option (Int×Int×Int):=(v.tp.bind Tis).bind i3
theorem t3_eq{v:V}{p:Int×Int×Int}(e:t3 v=some p):v= .tup [.int p.1,.int p.2.1,.int p.2.2]:=by
 refine xEA (bind_eq_some_iff.mp e) λl h1 h2=>?_
 refine xEA (bind_eq_some_iff.mp h1) λws h3 h4=>?_
 obtain rfl:=i3_ok h2
 obtain rfl:=aCk h4
 cases v with
 |tup=>cases h3;rfl
 |_=>cases h3
def mQ(C:Cx)(r:Nat):Prop:=∀ {A:Around}{s:Shared}{ρ:List Lc}{H:MH}{a:Value}{i j k:Int},Room r A->Sim C H ρ s->VR ρ s.heap a (.tup [.int i,.int j,.int k])->
 codeAny C.M A (.call (.ref 89) ⟨[.ref aE,a],[]⟩) (qU C ρ s λv H'=>v= .mat i j k/\H'=H) s
inductive MpR(ρ:List Lc)(h:Heap)(σ:Nat×Nat):Value->(Addr->Prop)->Prop
 |mk {z TI it m l} (h1:ρ[σ.1]? =some l) (n1:z≠it) (n2:TI≠it) (n3:m≠it) (P:sL h z TI it m l.a σ.2):MpR ρ h σ (.ref z) (λb=>b=z\/b=it\/b=m)
theorem MpR.mono{ρ ρ':List Lc}{h h':Heap}{σ:Nat×Nat}{x:Value}{X:Addr->Prop}(R:MpR ρ h σ x X)(e:ρ<+:ρ')(i:Imm h h')(hk:∀ b o,X b->h.get? b=some o->h'.get? b=some o):MpR ρ' h' σ x X:=by
 cases R with
 |mk h1 n1 n2 n3 P=>
  obtain⟨p1,p2,⟨o,p3,p3'⟩,p4⟩:=P
  exact .mk (aO e h1) n1 n2 n3 ⟨hk _ _ (.inl rfl) p1,i _ _ p2 (by simp [aV]),⟨o,hk _ _ (.inr (.inl rfl)) p3,p3'⟩,hk _ _ (.inr (.inr rfl)) p4⟩
theorem NxI.thenN{ρ ρ1 ρ2:List Lc}{X:Addr->Prop}{s s1 s2:Shared}(I:NxI ρ X s ρ1 s1)(N:Nx ρ1 noW s1 ρ2 s2)(hX:∀ b,X b->(∃ o,s.heap.get? b=some o)->∃ o,s1.heap.get? b=some o):NxI ρ X s ρ2 s2:=by
 refine⟨I.pre.trans N.pre,λl hl=>?_,λb o e ho hx=>N.kp b o (I.kp b o e ho hx) (I.owns e ho) id,I.imm.trans N.imm,λb o e hx=>let ⟨o',e'⟩:=I.al b o e hx;N.al b o' e'⟩
 refine xE I.pre λt z122=>?_;subst z122
 refine xE N.pre λt' z123=>?_;subst z123
 rw[append_assoc,drop_left]at hl
 have fr:∀ b,s1.heap.get? b=none->s.heap.get? b=none:=λb hb=>by
  cases e:s.heap.get? b with
  |none=>rfl
  |some o=>
   have:∃ o',s1.heap.get? b=some o':=Classical.byCases (λq:X b=>hX b q ⟨o,e⟩) λq=>I.al b o e q
   refine xE this λo' e'=>?_
   rw[hb]at e';cases e'
 refine Or.elim (mem_append.mp hl) (λq=>?_) λq=>?_
 ·exact I.new l (by simpa using q)
 ·have n:=N.new l (by simpa using q)
  exact⟨fr _ n.1,fr _ n.2⟩
def pK(C:Cx)(r0:Nat)(hm:mQ C r0):ItK C where
 σ:=Nat×Nat
 nx:=λit H Q=>Lf (lst H (.ref it.1)) λvs=>match vs[it.2]? with
  |none=>Q none H
  |some v=>Lf (t3 v) λp=>Q (some (.mat p.1 p.2.1 p.2.2,(it.1,it.2+1))) H
 rel:=λρ s σ x X=>MpR ρ s.heap σ x X
 mid:=λρ s σ u x X=>MpR ρ s.heap σ x X
 tg:=λ_=>True
 need:=r0+1
 mono:=λR e i hk=>R.mono e i hk
 alive:=λR b hb=>by
  cases R with
  |mk h1 n1 n2 n3 P=>
   obtain⟨p1,p2,⟨o,p3,p3'⟩,p4⟩:=P
   rcases hb with rfl |rfl |rfl
   ·exact⟨_,p1⟩
   ·exact⟨_,p3⟩
   ·exact⟨_,p4⟩
 next:=λ{A s ρ H σ x X Q r} hnd hr S R hX q=>by
  have hr':Room r0 A.in1:=by
   refine xAA hr λa b c=>?_
   exact⟨a,by show A.depth+10*r0<=700;exact A46 hnd b,by show A.units+1+40*r0<=8000;exact A47 hnd c⟩
  refine q.elim λvs hl q=>?_
  cases R with
  |mk h1 n1 n2 n3 P=>
  rename_i z TI it m l
  refine bL (b5 S (.ref h1) hl) λad xs q1 q2 q3=>?_
  cases q1
  refine cX P.it λoi hoi hci hdi=>?_
  have hi:∀ o,s.heap.get? it=some o->¬aV o:=λo' e'=>by rw[hoi]at e';cases e';exact pG hci hdi
  have hXi:=hX it (.inr (.inl rfl))
  cases hv:vs[σ.2]? with
  |some v=>
   rw[hv]at q
   refine Lf.elim (o:=t3 v) q λp hp q=>?_
   refine xEA (q3.get hv) λu hu ru=>?_
   rw[t3_eq hp]at ru
   refine zI P n1 n2 n3 q2 (by simpa using hu) λh' P' hs=>?_
   have st:=S.iterStep (h':=h') (a:=it) (λb o hb e=>(hs.2 b hb).trans e) hi hXi.1 hXi.2
   refine qU.run (hm hr' st.1 (ru.mono (prefix_refl _) st.2.imm)) λS2 N2 r2 q2=>?_
   refine xA q2 λqv z124=>?_;clear q2;subst z124
   have kp:∀ b o,(b=z\/b=it\/b=m)->h'.get? b=some o->_:=λb o hb eb=>N2.kp b o eb (hX b hb).1 (λq=>q)
   have I2:=st.2.thenN N2 λb hb _=>by rw[show b=it from hb];refine xEA P'.it λo e _=>?_;exact⟨o,e⟩
   refine .item (it':=(σ.1,σ.2+1)) S2 ⟨I2.pre,I2.new,λb o e ho hb=>I2.kp b o e ho λq=>hb (.inr (.inl q)),I2.imm,λb o e hb=>I2.al b o e λq=>hb (.inr (.inl q))⟩ r2 ?_ (by rw[qv];exact q)
   refine xEA P'.it λoi' e1' e2'=>?_
   exact .mk (aO N2.pre h1) n1 n2 n3 ⟨kp z _ (.inl rfl) P'.z,N2.imm _ _ P'.TI (by simp [aV]),⟨oi',kp it _ (.inr (.inl rfl)) e1',e2'⟩,kp m _ (.inr (.inr rfl)) P'.m⟩
  |none=>
   rw[hv]at q
   refine aDv hr.1 P q2 (Array.getElem?_eq_none (by rw[q3.sz];exact getElem?_eq_none_iff.mp hv)) λh' he=>?_
   have st:=S.iterStep (h':=h') (a:=it) (λb o hb e=>he b o hb e) hi hXi.1 hXi.2
   exact .done st.1 ⟨st.2.pre,st.2.new,λb o e ho hb=>st.2.kp b o e ho (λq=>hb (.inr (.inl q))),st.2.imm,λb o e hb=>st.2.al b o e (λq=>hb (.inr (.inl q)))⟩ q
 lgo:=λ{A s ρ H σ x X u target r} hr S R _ hX=>by
  have R':=R
  cases R with
  |mk h1 n1 n2 n3 P=>exact iI (T:="map") P.z rfl (by decide) ⟨S,.refl,R'⟩
end
section
variable {C:Cx}{r:Nat}{env:Env}
theorem sV{prog:Program}{w:World}{A:Around}{E:Value->Shared->Prop}{s:Shared}{z:Addr}{Q:Value->Shared->Prop}(hT:s.TypeIs (.ref z) "map")(h:Q (.ref z) s):wpAny (model prog w) A (pyIter (.ref z)) Q E s:=by
 refine wpAny_pyIter_slot hT rK (wpAny_call_entry rK hT l3 ?_ (mX _))
 show wpAny _ _ (ret (.ref z)) _ _ s
 exact zzP ⟨_,rfl,"map",_,hT,hU.lookup,h⟩
theorem zR{r0:Nat}(hm:mQ C r0){n:Nat}{A:Around}{s0 s:Shared}{ρ0 ρ:List Lc}{H:MH}{σ:Nat×Nat}{z:Addr}{X:Addr->Prop}{Q:MH->Prop}(hnd:r0+1<=r)(hr:Room (r+1) A)(N0:Nx ρ0 noW s0 ρ s)(S:Sim C H ρ s)(R:MpR ρ s.heap σ (.ref z) X)(hX:∀ b,X b->s0.heap.get? b=none/\¬Own ρ b/\C.base.heap.get? b=none)(e:eU (pK C r0 hm) H.length n σ (H++[.list []]) Q):wpAny C.M A (call (.type "list") [.ref z]) (bK C ρ0 s0 λv H'=>v= .ref H.length/\Q H') NoE s:=by
 have hz:∃ TI m,s.heap.get? z=some {cls:=.type "map",data:=.fields #[TI,m]}:=by
  cases R with
  |mk h1 n1 n2 n3 P=>exact⟨_,_,P.z⟩
 refine xEE hz λTI m hz=>?_
 exact nW (K:=pK C r0 hm) (T:="map") hnd (λM=>M) (by decide) (by decide) tB rJ hr N0 S R hX ⟨_,hz,rfl⟩ (λs' h q=>sV ⟨_,h.trans hz,rfl⟩ q) e
end
section
variable {C:Cx}{r:Nat}{env:Env}
theorem pQ{K:Frag}(hK:KCx C K){A:Around}{E:Value->Shared->Prop}{s:Shared}{b:Bool}{Q:Value->Shared->Prop}(X:K.In s.heap)(h:Q (.ref s.heap.objs.size) {s with heap:=s.heap.push (methodObj (.ref 89) (.ref aE)),toks:=s.toks+1}):wpAny C.M A (getAttr (.ref aE) "_make" b) Q E s:=by
 refine xE hK.cmM λbb hb=>?_
 refine cls_bind X hK.readsM hK.makeM (wpAny_call (cm_get (s:= {s with toks:=s.toks+1}) X hb ?_))
 exact handed_on rfl h
theorem sJ{M:Model}{A:Around}{E:Value->Shared->Prop}{s:Shared}{f:Value}{pos:Pos}{e:Expr}{es:List Expr}{Q:Args->Shared->Prop}(he:starEach (e::es) env=(false,eval e env)::starEach es env)(h:wpAny M A (spliced (backTo pos (starEach (e::es) env))) (λvs s'=>Q ⟨vs,[]⟩ s') E s):wpAny M A (evalArgs f true (backTo pos (starEach (e::es) env)) []) Q E s:=by
 rw[he]at h ⊢
 exact evalArgs_plain h
def eLM(K:ItK C)(σ:Nat->K.σ)(f:EF):EF:=λlo H Q=>f lo H λa H1=>Lf a.rf λci=>(∃ vs,lst H1 (.ref ci)=some vs)/\∃ n,eU K H1.length n (σ ci) (H1++[.list []]) λH2=>Q (.ref H1.length) H2
theorem EV.listMap{K:Frag}(hK:KCx C K){r0:Nat}(hm:mQ C r0)(hnd:r0+1<=r){p1 p2 p3 p4 p5 p6:Pos}{e:Expr}{f:EF}(he:EV C (r+1) env e f)(gl:Glo C "list" (.type "list")) (gm:Glo C "map" (.type "map")) (gM:Glo C "Match" (.ref aE)) (kl:env.kindOf "list" =some .globalImplicit) (km:env.kindOf "map" =some .globalImplicit) (kM:env.kindOf "Match" =some .globalImplicit)(e1:starEach [.Call (.Name "map" p2) [.Attribute (.Name "Match" p3) "_make" p4,e] [] p5] env=(false,eval (.Call (.Name "map" p2) [.Attribute (.Name "Match" p3) "_make" p4,e] [] p5) env)::starEach [] env)(e2:starEach [.Attribute (.Name "Match" p3) "_make" p4,e] env=(false,eval (.Attribute (.Name "Match" p3) "_make" p4) env)::starEach [e] env) (e3:starEach [e] env=(false,eval e env)::starEach [] env)(b1:∀ pos,(backTo pos (starEach [.Call (.Name "map" p2) [.Attribute (.Name "Match" p3) "_make" p4,e] [] p5] env)).any (·.1)=false) (b2:∀ pos,(backTo pos (starEach [.Attribute (.Name "Match" p3) "_make" p4,e] env)).any (·.1)=false)(hab:attributeBase (.Name "Match" p3) "_make" env (eval (.Name "Match" p3) env)=eval (.Name "Match" p3) env) (hlt:∀ o y,letTemporaryGo (.Name "Match" p3) o y=pure ()):EV C (r+1) env (.Call (.Name "list" p1) [.Call (.Name "map" p2) [.Attribute (.Name "Match" p3) "_make" p4,e] [] p5] [] p6) (eLM (pK C r0 hm) (λi=>(i,0)) f):=by
 intro A s ρ H lo Q hr S F q
 refine wpAny_Call_ofName (j5 gl kl (by decide+kernel) S F ?_)
 refine callWith_of (P:=λh=>∀ b o,C.base.heap.get? b=some o->h.get? b=some o) (by rw[b1];rfl) d7 ?_
 refine sJ e1 (wpAny_items_cons ?_ e1)
 refine wpAny_Call_ofName (j5 gm km (by decide+kernel) S F ?_)
 refine callWith_of (P:=λh=>∀ b o,C.base.heap.get? b=some o->h.get? b=some o) (by rw[b2];rfl) d7 ?_
 refine sJ e2 (wpAny_items_cons ?_ e2)
 refine cW hab (j5 gM kM (by decide+kernel) S F ?_)
 refine pQ hK (hK.mem.keeps S.keep) ?_
 have N0:Nx ρ noW s ρ {s with heap:=s.heap.push (methodObj (.ref 89) (.ref aE)),toks:=s.toks+1}:=(Nx.push _).trans (.toks _)
 have hm0:(s.heap.push (methodObj (.ref 89) (.ref aE))).get? s.heap.objs.size=some (methodObj (.ref 89) (.ref aE)):=Heap.get?_push_size _ rfl
 refine wpAny_items_cons (he.run hr ((S.push (methodObj (.ref 89) (.ref aE))).toks (s.toks+1)) (F.nx N0) q λ{x s1 ρ1 v1 H1} S1 N1 r1 q=>q.elim λci hci q=>?_) e3
 refine xAE q λz125 n q=>?_;obtain⟨vs,hl⟩:=z125
 refine wpAny_items_nil ⟨S1.keep,?_⟩
 refine cX (r1.toRef hci) λlc _ z126 g=>?_;subst z126
 refine bL (b5 S1 (.ref g) hl) λad xs ha q2 q3=>?_
 cases ha
 have hom: ¬Own ρ s.heap.objs.size:=eB S (bD _)
 have hm1:=N1.kp _ _ hm0 hom (λq=>q)
 have kp:∀ b o,s1.heap.get? b=some o->(zL s1.heap (.ref s.heap.objs.size) lc.a).get? b=some o:=λb o e=>Heap.get?_push_of_some _ (Heap.get?_push_of_some _ (Heap.get?_push_of_some _ e))
 refine aB7 q2 (wpAny_items_nil ⟨λb o e=>kp b o (S1.keep b o e),?_⟩)
 have S2:=S1.extS kp
 have N01:=N0.trans N1
 have z1:(zM s1.heap lc.a).objs.size=s1.heap.objs.size+1:=Heap.size_push ..
 have z2:(uW s1.heap lc.a).objs.size=s1.heap.objs.size+2:=by rw[Heap.size_push,z1]
 refine wmN (zR hm (s0:=s) (ρ0:=ρ) (σ:=(ci,0)) hnd hr (N01.trans (.ext (k:=s1.toks) kp)) S2
  (.mk g (by rw[z2];exact Nat.ne_of_gt (Nat.lt_add_of_pos_right (by decide))) (by rw[z1];exact Nat.ne_of_gt (lt_succ_self _)) (ne_of_lt (Heap.lt_size hm1))
   ⟨Heap.get?_push_size _ rfl,Heap.get?_push_of_some _ (Heap.get?_push_size _ rfl),⟨_,Heap.get?_push_of_some _ (Heap.get?_push_of_some _ (Heap.get?_push_size _ rfl)),rfl,rfl⟩,kp _ _ hm1⟩) (λb hb=>?_) q) λx s' p=>?_
 ·rcases hb with rfl |rfl |rfl
  ·exact cP N01 S1 (by rw[z2];exact Heap.get?_none_of_le (Nat.le_add_right _ _))
  ·exact cP N01 S1 (bD _)
  ·exact⟨bD _,N1.own hm0 hom,dL S (bD _)⟩
 ·obtain⟨S',N',r',hv,q⟩:=p
  subst hv
  exact⟨S',N',r',q⟩
end
section
variable {a b c d e f g h i j k l:Int}{m n p q r s t u v w x y:Nat}
theorem Yn0:m<=n->¬(m<=p)->((2:Nat)*q)<=(p+m)->(p+m)<((2:Nat)*(q+(1:Nat)))->q<n:=Z.R 0x2001042a41f6b00007dac00be07da2a000007a2a02b0be007a2aa00107a68007 [] [m,n,p,q]
theorem Yn1:(m-n)<=(p+(1:Nat))->((2:Nat)*q)<=(n+m)->(n+m)<((2:Nat)*(q+(1:Nat)))->(m-(q+(1:Nat)))<=p:=Z.R 0x100000000008100004100000000104100102a07dac0a01001f6b002f81f68a400001e8a40ac2f801c1f6a029a01007 [] [m,n,p,q]
theorem Yn2: ¬(m<=n)->((2:Nat)*p)<=(n+m)->(n+m)<((2:Nat)*(p+(1:Nat)))->(p+(1:Nat))<=m:=Z.R 0x80041a01f6a00007da800be07da29000007a2902a0be007a29a00107 [] [m,n,p]
theorem Yn3:m<=n->¬(m<=p)->((2:Nat)*q)<=(p+m)->(p+m)<((2:Nat)*(q+(1:Nat)))->¬(n=q):=Z.R 0x800410a8ae904407dac00be07da2a000007a2a02b0be007a2aa00107a68007 [] [m,n,p,q]
theorem Yn4:m<n->p<=m->¬(p<=q)->((2:Nat)*r)<=(q+p)->(q+p)<((2:Nat)*(r+(1:Nat)))->r<n:=Z.R 0x20010420a907db00001f6c002f81f6aac00001eaac0b02f801e8aea0041e8a801e907da00007 [] [m,n,p,q,r]
theorem Yn5:(m-n)<=(p+(1:Nat))->((2:Nat)*q)<=(n+m)->(n+m)<((2:Nat)*(q+(1:Nat)))->(q-n)<=p:=Z.R 0x40000000080001001040000000080001040aa9ac1001f6b002f81f68a400001e8a40ac2f801c1f6a029a01007 [] [m,n,p,q]
theorem Yn6:m<=n->¬(m<=p)->((2:Nat)*q)<=(p+m)->(p+m)<((2:Nat)*(q+(1:Nat)))->q<=n:=Z.R 0x800410a9ac007dac00be07da2a000007a2a02b0be007a2aa00107a68007 [] [m,n,p,q]
theorem Yn7: ¬(m<=n)->((2:Nat)*p)<=(n+m)->(n+m)<((2:Nat)*(p+(1:Nat)))->n<=p:=Z.R 0x204006aa4007da800be07da29000007a2902a0be007a29a00107 [] [m,n,p]
theorem Yn8:m<=n->¬(m<=p)->n=q->((2:Nat)*q)<=(p+m)->(p+m)<((2:Nat)*(q+(1:Nat)))->False:=Z.R 0x400810a807dac00be07da2a000007a2a02b0be007ae9047a2aa00107a68007 [] [m,n,p,q]
end
section
def PW{α:Type}(n:Nat)(c:Nat->Nat->Bool):KasT α->(α->Prop)->Prop
 | .ret a,Q=>Q a
 | .ask i j k,Q=>i<n/\j<n/\i≠j/\PW n c (k (c i j)) Q
theorem PW.bind{α β:Type}{n:Nat}{c:Nat->Nat->Bool}{f:α->KasT β}{Q:β->Prop}:∀ {t:KasT α},PW n c t (λa=>PW n c (f a) Q)->PW n c (t.bind f) Q
 | .ret _,h=>h
 | .ask i j k,⟨h1,h2,h0,h3⟩=>⟨h1,h2,h0,PW.bind h3⟩
theorem PW.mono{α:Type}{n:Nat}{c:Nat->Nat->Bool}{Q Q':α->Prop}(hq:∀ a,Q a->Q' a):∀ {t:KasT α},PW n c t Q->PW n c t Q'
 | .ret _,h=>hq _ h
 | .ask i j k,⟨h1,h2,h0,h3⟩=>⟨h1,h2,h0,PW.mono hq h3⟩
theorem PW.wp{α:Type}{n:Nat}{c:Nat->Nat->Bool}{Q:α->Prop}{R:α->Shared->Prop}{cmp:Nat->Nat->(Bool->Shared->Prop)->Shared->Prop}{I:Shared->Prop}(hc:∀ i j D s,i<n->j<n->i≠j->I s->(∀ s',I s'->D (c i j) s')->cmp i j D s)(hq:∀ a s,Q a->I s->R a s):∀ {t:KasT α},PW n c t Q->∀ s,I s->t.kasWp cmp R s
 | .ret _,h,s,hs=>hq _ s h hs
 | .ask i j k,⟨h1,h2,h0,h3⟩,s,hs=>hc i j _ s h1 h2 h0 hs λs' hs'=>PW.wp hc hq h3 s' hs'
structure Ord(n:Nat)(c:Nat->Nat->Bool):Prop where
 tr:∀ x y z,c x y=true->c y z=true->c x z=true
 tot:∀ x y,x<n->y<n->x≠y->c x y=true\/c y x=true
 asy:∀ x y,c x y=true->c y x=false
def gt(p:Array Nat)(i:Nat):Nat:=p.getD i 0
structure Pm(n:Nat)(p:Array Nat):Prop where
 pm:p.Perm (List.toArray (List.range n))
theorem Pm.tl{n:Nat}{p:Array Nat}(P:Pm n p):p.toList.Perm (List.range n):=P.pm.toList
theorem Pm.sz{n:Nat}{p:Array Nat}(P:Pm n p):p.size=n:=by
 have:=P.tl.length_eq
 rw[List.length_range]at this
 exact this
theorem Pm.at{n:Nat}{p:Array Nat}(P:Pm n p){i:Nat}(h:i<n):∃ h':i<p.toList.length,gt p i=p.toList[i]:=by
 have h':i<p.size:=P.sz.symm▸h
 refine⟨h',?_⟩
 unfold gt
 rw[Array.getD_eq_getD_getElem?,Array.getElem?_eq_getElem h'];rfl
theorem Pm.lt{n:Nat}{p:Array Nat}(P:Pm n p)(i:Nat)(h:i<n):gt p i<n:=by
 obtain⟨h',e⟩:=P.at h
 rw[e]
 exact List.mem_range.mp (P.tl.mem_iff.mp (List.getElem_mem h'))
theorem Pm.inj{n:Nat}{p:Array Nat}(P:Pm n p)(i j:Nat)(hi:i<n)(hj:j<n)(h:gt p i=gt p j):i=j:=by
 obtain⟨h1,e1⟩:=P.at hi
 obtain⟨h2,e2⟩:=P.at hj
 rw[e1,e2]at h
 exact(List.getElem_inj (P.tl.nodup_iff.mpr List.nodup_range)).mp h
def Sd(c:Nat->Nat->Bool)(p:Array Nat)(m:Nat):Prop:=∀ i j,i<j->j<m->c (gt p i) (gt p j)=true
def Ds(c:Nat->Nat->Bool)(p:Array Nat)(m:Nat):Prop:=∀ i j,i<j->j<m->c (gt p j) (gt p i)=true
variable {n:Nat}{c:Nat->Nat->Bool}
theorem Sd.snoc(O:Ord n c){p:Array Nat}{k:Nat}(h:Sd c p k)(h1:1<=k)(hc:c (gt p (k-1)) (gt p k)=true):Sd c p (k+1):=by
 intro i j hij hj
 rcases lt_or_ge j k with q |q
 ·exact h i j hij q
 ·obtain rfl:j=k:=A63 hj q
  rcases lt_or_ge i (j-1) with z |z
  ·exact O.tr _ _ _ (h i (j-1) z (A64 z)) hc
  ·obtain rfl:i=j-1:=A65 hij z
   exact hc
theorem Ds.snoc(O:Ord n c){p:Array Nat}{k:Nat}(h:Ds c p k)(h1:1<=k)(hc:c (gt p k) (gt p (k-1))=true):Ds c p (k+1):=by
 intro i j hij hj
 rcases lt_or_ge j k with q |q
 ·exact h i j hij q
 ·obtain rfl:j=k:=A63 hj q
  rcases lt_or_ge i (j-1) with z |z
  ·exact O.tr _ _ _ hc (h i (j-1) z (A64 z))
  ·obtain rfl:i=j-1:=A65 hij z
   exact hc
theorem other(O:Ord n c){p:Array Nat}(P:Pm n p){i j:Nat}(hi:i<n)(hj:j<n)(hij:i≠j)(h:c (gt p i) (gt p j)=false):c (gt p j) (gt p i)=true:=by
 rcases O.tot _ _ (P.lt i hi) (P.lt j hj) (λq=>hij (P.inj i j hi hj q)) with q |q
 ·rw[q]at h;cases h
 ·exact q
theorem t0(O:Ord n c){p:Array Nat}(P:Pm n p):∀ (f k:Nat),1<=k->k+f<=n->Sd c p k->PW n c (kas_asc p f k) (λm=>k<=m/\m<=k+f/\Sd c p m/\(m<k+f->c (gt p m) (gt p (m-1))=true))
 |0,k,h1,h2,h=>⟨le_refl _,le_refl _,h,λq=>absurd q (Nat.lt_irrefl _)⟩
 |f+1,k,h1,h2,h=>by
  refine⟨P.lt k (A66 h2),P.lt (k-1) (A67 h2),λq=>by have:=P.inj k (k-1) (A66 h2) (A67 h2) q;exact(A68 h1 this).elim,?_⟩
  cases hc:c (p.getD k 0) (p.getD (k-1) 0) with
  |true=>exact⟨le_refl _,A69,h,λ_=>hc⟩
  |false=>
   show PW n c (if false=true then _ else kas_asc p f (k+1)) _
   rw[if_neg (by decide)]
   exact(t0 O P f (k+1) A70 (A71 h2) (h.snoc O h1 (other O P (A66 h2) (A67 h2) (A72 h1) hc))).mono λm ⟨a,b,d,e⟩=>⟨A32 a,A73 b,d,λq=>e (A74 q)⟩
theorem vO(O:Ord n c){p:Array Nat}(P:Pm n p):∀ (f k:Nat),1<=k->k+f<=n->Ds c p k->PW n c (kas_desc f p k 0) (λr=>r.1=p/\r.2.2=0/\k<=r.2.1/\r.2.1<=k+f/\Ds c p r.2.1)
 |0,k,h1,h2,h=>⟨rfl,rfl,le_refl _,le_refl _,h⟩
 |f+1,k,h1,h2,h=>by
  refine⟨P.lt k (A66 h2),P.lt (k-1) (A67 h2),λq=>by have:=P.inj k (k-1) (A66 h2) (A67 h2) q;exact(A68 h1 this).elim,?_⟩
  cases hc:c (p.getD k 0) (p.getD (k-1) 0) with
  |true=>
   show PW n c (if true=true then(if 0>0 then _ else kas_desc f p (k+1) 0) else _) _
   rw[if_pos rfl,if_neg A75]
   exact(vO O P f (k+1) A70 (A71 h2) (h.snoc O h1 hc)).mono λr ⟨a,b,d,e,g⟩=>⟨a,b,A32 d,A73 e,g⟩
  |false=>
   have h3:=other O P (i:=k) (j:=k-1) (A66 h2) (A67 h2) (A72 h1) hc
   show PW n c (if false=true then _ else KasT.ask (p.getD (k-1) 0) (p.getD k 0) λd=>if d=true then .ret (p,k,0) else kas_desc f p (k+1) (0+1)) _
   rw[if_neg (by decide)]
   refine⟨P.lt (k-1) (A67 h2),P.lt k (A66 h2),λq=>by have:=P.inj (k-1) k (A67 h2) (A66 h2) q;exact(A76 h1 this).elim,?_⟩
   have h3':c (p.getD (k-1) 0) (p.getD k 0)=true:=h3
   rw[h3']
   show PW n c (KasT.ret (p,k,0)) _
   exact⟨rfl,rfl,le_refl _,by show k<=k+(f+1);exact A69,h⟩
theorem rR{p q:Array Nat}{i j:Nat}(h:p[i]? =q[j]?):gt p i=gt q j:=by
 unfold gt
 rw[Array.getD_eq_getD_getElem?,Array.getD_eq_getD_getElem?,h]
theorem aAp{p:Array Nat}{m k:Nat}(hm:m<=p.size):gt (kas_rev p 0 m) k=if k<m then gt p (m-1-k) else gt p k:=by
 have h:=getElem?_mirror_all (xs:=p) (i:=0) (j:=m) hm k
 split
 ·rename_i q
  rw[if_pos ⟨zero_le _,q⟩]at h
  refine rR (h.trans ?_)
  congr 1
  exact A77
 ·rename_i q
  rw[if_neg (λz=>q z.2)]at h
  exact rR h
theorem Pm.rev{p:Array Nat}{m:Nat}(P:Pm n p):Pm n (kas_rev p 0 m):=⟨(mirror_perm _ _ _ _).trans P.pm⟩
theorem Ds.rev{p:Array Nat}{m:Nat}(P:Pm n p)(hm:m<=n)(h:Ds c p m):Sd c (kas_rev p 0 m) m:=by
 intro i j hij hj
 rw[aAp (by rw[P.sz];exact hm),aAp (by rw[P.sz];exact hm),if_pos (A53 hij hj),if_pos hj]
 exact h _ _ (A78 hij hj) (A79 hj)
theorem aBz(O:Ord n c){p:Array Nat}(P:Pm n p)(hn:1<=n):PW n c (kas_count n p) (λr=>Pm n r.2/\1<=r.1/\r.1<=n/\Sd c r.2 r.1):=by
 unfold kas_count
 refine PW.bind ((t0 O P (n-1) 1 (le_refl _) (A80 hn) (λi j h1 h2=>by exact(A81 h1 h2).elim)).mono λm ⟨a,b,d,e⟩=>?_)
 split
 ·rename_i hm
  exact⟨P,a,A82 hn b,d⟩
 ·rename_i hm
  have hm':m≠n:=by simpa using hm
  split
  ·rename_i h1
   refine⟨P.lt 0 (A83 b h1),P.lt (m-1) (A84 b h1),λq=>by have:=P.inj 0 (m-1) (A83 b h1) (A84 b h1) q;exact(A85 h1 this).elim,?_⟩
   have:c (p.getD 0 0) (p.getD (m-1) 0)=true:=d 0 (m-1) (A86 h1) (A87 h1)
   rw[this]
   show PW n c (KasT.ret (m,p)) _
   exact⟨P,a,A88 b h1,d⟩
  ·rename_i h1
   obtain rfl:m=1:=A89 a h1
   have hd:Ds c p 2:=by
    intro i j h2 h3
    obtain rfl:j=1:=A90 h2 h3
    obtain rfl:i=0:=A91 h2
    exact e (A92 hn hm')
   unfold kas_descPart
   refine PW.bind ((vO O P (n-(1+1)) 2 A93 (A94 hn hm') hd).mono λr ⟨r1,r2,r3,r4,r5⟩=>?_)
   rw[if_neg (A95 r2)]
   unfold kas_tail3
   rw[r1]
   have hrn:r.2.1<=n:=A96 hn hm' r4
   refine PW.bind ((t0 O P.rev (n-r.2.1) r.2.1 (A97 r3) (A98 hrn) (r5.rev P hrn)).mono λm' ⟨a',b',d',e'⟩=>?_)
   exact⟨P.rev,by show 1<=m';exact A99 r3 a',by show m'<=n;exact A100 hrn b',d'⟩
theorem lX(O:Ord n c){p:Array Nat}(P:Pm n p){k:Nat}(hk:k<n)(hs:Sd c p k):∀ (f l r:Nat),l<=r->r<=k->r-l<=f->(∀ i,i<l->c (gt p i) (gt p k)=true)->(∀ i,r<=i->i<k->c (gt p k) (gt p i)=true)-> PW n c (kas_place p k f l r) (λx=>x<=k/\(∀ i,i<x->c (gt p i) (gt p k)=true)/\(∀ i,x<=i->i<k->c (gt p k) (gt p i)=true))
 |0,l,r,h1,h2,h3,h4,h5=>⟨A101 h1 h2,h4,λi hi=>h5 i (A102 h3 hi)⟩
 |f+1,l,r,h1,h2,h3,h4,h5=>by
  unfold kas_place
  split
  ·exact⟨A101 h1 h2,h4,λi hi=>h5 i (by omega)⟩
  ·rename_i hlr
   refine⟨P.lt k hk,P.lt ((l+r)/2) (by exact Yn4 hk h2 hlr (mul_div_le _ 2) (lt_mul_div_succ _ (by decide))),λq=>by have:=P.inj k ((l+r)/2) hk (by exact Yn4 hk h2 hlr (mul_div_le _ 2) (lt_mul_div_succ _ (by decide))) q;exact Yn8 h2 hlr this (mul_div_le _ 2) (lt_mul_div_succ _ (by decide)),?_⟩
   cases hc:c (p.getD k 0) (p.getD ((l+r)/2) 0) with
   |true=>
    show PW n c (kas_place p k f l ((l+r)/2)) _
    refine lX O P hk hs f l ((l+r)/2) (by exact Yn7 hlr (mul_div_le _ 2) (lt_mul_div_succ _ (by decide))) (by exact Yn6 h2 hlr (mul_div_le _ 2) (lt_mul_div_succ _ (by decide))) (by exact Yn5 h3 (mul_div_le _ 2) (lt_mul_div_succ _ (by decide))) h4 λi hi hik=>?_
    rcases Nat.eq_or_lt_of_le hi with q |q
    ·rw[<-q];exact hc
    ·exact O.tr _ _ _ hc (hs _ i q hik)
   |false=>
    show PW n c (kas_place p k f ((l+r)/2+1) r) _
    have h6:=other O P (i:=k) (j:=(l+r)/2) hk (by exact Yn4 hk h2 hlr (mul_div_le _ 2) (lt_mul_div_succ _ (by decide))) (by exact Yn3 h2 hlr (mul_div_le _ 2) (lt_mul_div_succ _ (by decide))) hc
    refine lX O P hk hs f ((l+r)/2+1) r (by exact Yn2 hlr (mul_div_le _ 2) (lt_mul_div_succ _ (by decide))) h2 (by exact Yn1 h3 (mul_div_le _ 2) (lt_mul_div_succ _ (by decide))) (λi hi=>?_) h5
    rcases Nat.eq_or_lt_of_le (Nat.le_of_lt_succ hi) with q |q
    ·rw[q];exact h6
    ·exact O.tr _ _ _ (hs i _ q (by exact Yn0 h2 hlr (mul_div_le _ 2) (lt_mul_div_succ _ (by decide)))) h6
theorem aAq{p:Array Nat}{k l i:Nat}(hk:k<p.size)(hl:l<=k):gt (bubble p k (k-l)) i=if i=l then gt p k else if l<i/\i<=k then gt p (i-1) else gt p i:=by
 have h:=getElem?_bubble (xs:=p) (src:=k) hk (k-l) A103 i
 have e:k-(k-l)=l:=A104 hl
 rw[e]at h
 split
 ·rename_i q;rw[if_pos q]at h;exact rR h
 ·rename_i q
  rw[if_neg q]at h
  split
  ·rename_i q2;rw[if_pos q2]at h;exact rR h
  ·rename_i q2;rw[if_neg q2]at h;exact rR h
theorem aCe(O:Ord n c):∀ (f:Nat){p:Array Nat} (k:Nat),Pm n p->Sd c p k->k+f=n->PW n c (kas_bin f p k) (λq=>Pm n q/\Sd c q n)
 |0,p,k,P,hs,he=>by
  obtain rfl:k=n:=A105 he
  exact⟨P,hs⟩
 |f+1,p,k,P,hs,he=>by
  unfold kas_bin
  have hk:k<n:=A106 he
  refine PW.bind ((lX O P hk hs k 0 k (zero_le _) (le_refl _) A107 (λi hi=>absurd hi (Nat.not_lt_zero _)) (λi h1 h2=>absurd h1 (A108 h2))).mono λl ⟨a,b,d⟩=>?_)
  have hks:k<p.size:=by rw[P.sz];exact hk
  refine aCe O f (k+1) ⟨(bubble_perm _ _ _).trans P.pm⟩ (λi j hij hj=>?_) (A109 he)
  ·rw[aAq hks a,aAq hks a]
   by_cases h1:i=l
   ·rw[if_pos h1,if_neg (A110 hij h1),if_pos (A111 hij hj h1)]
    exact d _ (A112 hij h1) (A113 hij hj)
   ·rw[if_neg h1]
    by_cases h2:l<i/\i<=k
    ·rw[if_pos h2,if_neg (A114 hij h2),if_pos (A115 hij hj h2)]
     exact hs _ _ (A116 hij h2) (A117 hj h2)
    ·rw[if_neg h2]
     by_cases h3:j=l
     ·rw[if_pos h3];exact b _ (A118 hij h3)
     ·rw[if_neg h3]
      by_cases h4:l<j/\j<=k
      ·rw[if_pos h4]
       have:i<l:=A119 hij h1 h2 h4
       exact hs _ _ (A120 h4 this) (A121 h4)
      ·rw[if_neg h4]
       exact hs _ _ hij (A122 a hj h3 h4)
theorem aC4(O:Ord n c)(hn:1<=n):PW n c (kas_sort n) (λp=>Pm n p/\Sd c p n):=by
 unfold kas_sort
 have P:Pm n (List.toArray (List.range n)):=⟨Array.Perm.refl _⟩
 refine PW.bind ((aBz O P hn).mono λr ⟨a,b,d,e⟩=>?_)
 split
 ·rename_i h
  have hm:max r.1 1=r.1:=A123 b
  rw[hm]
  exact aCe O _ r.1 a e (A124 h)
 ·rename_i h
  have:r.1=n:=A125 d h
  rw[this]at e
  exact⟨a,e⟩
def w7{α:Type}(key:α->Int)(l:List α):Prop:=l.Pairwise λa b=>key a<key b
theorem nK{α:Type}{key:α->Int}:∀ {a b:List α},a.Perm b->w7 key a->w7 key b->a=b
 | [],_,p,_,_=>p.nil_eq
 |x::r,b,p,ha,hb=>by
  cases b with
  |nil=>exact absurd p.length_eq (by simp)
  |cons y t=>
   have hx:x∈y::t:=p.mem_iff.mp (.head _)
   have hy:y∈x::r:=p.mem_iff.mpr (.head _)
   have e:x=y:=by
    rcases mem_cons.mp hx with h |h
    ·exact h
    ·rcases mem_cons.mp hy with h' |h'
     ·exact h'.symm
     ·have a1:=(pairwise_cons.mp ha).1 y h'
      have a2:=(pairwise_cons.mp hb).1 x h
      exact(A126 a1 a2).elim
   subst e
   rw[nK (List.Perm.cons_inv p) (pairwise_cons.mp ha).2 (pairwise_cons.mp hb).2]
def ins{α:Type}(key:α->Int)(x:α):List α->List α
 | []=>[x]
 |y::r=>if key x<key y then x::y::r else y::ins key x r
def isort{α:Type}(key:α->Int):List α->List α
 | []=>[]
 |x::r=>ins key x (isort key r)
theorem mB{α:Type}(key:α->Int)(x:α):∀ l:List α,(ins key x l).Perm (x::l)
 | []=>.refl _
 |y::r=>by
  unfold ins
  split
  ·exact .refl _
  ·exact((mB key x r).cons y).trans (.swap x y r)
theorem b7{α:Type}(key:α->Int):∀ l:List α,(isort key l).Perm l
 | []=>.refl _
 |x::r=>(mB key x _).trans ((b7 key r).cons x)
theorem aAj{α:Type}{key:α->Int}{x:α}:∀ {l:List α},w7 key l->(∀ y∈l,key y≠key x)->w7 key (ins key x l)
 | [],_,_=>List.pairwise_singleton _ _
 |y::r,h,hn=>by
  unfold ins
  have h1:=pairwise_cons.mp h
  split
  ·rename_i hlt
   refine pairwise_cons.mpr ⟨λz hz=>?_,h⟩
   rcases mem_cons.mp hz with rfl |hz
   ·exact hlt
   ·have:=h1.1 z hz;exact A52 hlt this
  ·rename_i hlt
   have hne:=hn y (.head _)
   refine pairwise_cons.mpr ⟨λz hz=>?_,aAj h1.2 λz hz=>hn z (.tail _ hz)⟩
   rcases mem_cons.mp ((mB key x r).mem_iff.mp hz) with rfl |hz
   ·exact A127 hlt hne
   ·exact h1.1 z hz
theorem l9{α:Type}{key:α->Int}:∀ {l:List α},l.Pairwise (λa b=>key a≠key b)->w7 key (isort key l)
 | [],_=>.nil
 |x::r,h=>by
  have h1:=pairwise_cons.mp h
  exact aAj (l9 h1.2) λy hy=>(h1.1 y ((b7 key r).mem_iff.mp hy)).symm
theorem out_eq{α:Type}(d:α)(key:α->Int){vs:List α}(hd:vs.Pairwise λa b=>key a≠key b){p:Array Nat}(P:Pm vs.length p)(hs:Sd (λa b=>decide (key (vs.getD a d)<key (vs.getD b d))) p vs.length):p.toList.map (λi=>vs.getD i d)=isort key vs:=by
 refine nK (key:=key) ?_ ?_ (l9 hd)
 ·have h1:p.toList.Perm (List.range vs.length):=by simpa using P.pm.toList
  have h2:(List.range vs.length).map (λi=>vs.getD i d)=vs:=by
   refine List.ext_getElem (by simp) λi h1 h2=>?_
   simp at h1
   simp [h1]
  have h3:=h1.map (λi=>vs.getD i d)
  rw[h2]at h3
  exact h3.trans (b7 key vs).symm
 ·unfold w7
  rw[List.pairwise_map,List.pairwise_iff_getElem]
  intro i j hi hj hij
  have hz:p.size=vs.length:=P.sz
  simp only[Array.length_toList]at hi hj
  have:=hs i j hij (A118 hj hz)
  have e1:gt p i=p[i]:=by unfold gt;simp [Array.getD,hi]
  have e2:gt p j=p[j]:=by unfold gt;simp [Array.getD,hj]
  rw[e1,e2]at this
  simpa using this
end
section
variable {C:Cx}{r:Nat}{env:Env}
theorem xL:builtinKind "tuple.__lt__" =some .slot:=by decide+kernel
theorem v6:splitId "tuple.__lt__" =some ("tuple","__lt__"):=by decide+kernel
theorem v7:plainId "tuple.__lt__" =true:=by decide+kernel
theorem xM(a b:Value):argsOk "tuple.__lt__" ⟨[a,b],[]⟩:=by unfold argsOk;kernel_rfl
theorem v8:entryFor table "tuple.__lt__" =some Builtin.«tuple.__lt__»:=entryFor_of_tree ⋯
theorem xK:Slot "tuple" "__lt__" "tuple.__lt__" :=.of (owner:="tuple") (n:="__lt__") (by rw[typeLookup_type,builtinLookup_eq_fast];kernel_rfl) (by decide+kernel) (by decide+kernel) (by decide+kernel)
  (by first |exact .inl (by decide+kernel) |exact .inr (by decide+kernel)) (by rw[isSubtype_type];kernel_rfl)
theorem lt_mat{K:Frag}(hK:KMx C K){A:Around}{E:Value->Shared->Prop}{s:Shared}{x y:Addr}{i j:Int}{t u:Tok}{x2 x3 y2 y3:Value}{n m:Nat}{dd de:Option Addr}{Q:Bool->Shared->Prop}(hu:A.units<cLine)(X:K.In s.heap)(hx:s.heap.get? x=some (o0 (.int i t) x2 x3 n dd)) (hy:s.heap.get? y=some (o0 (.int j u) y2 y3 m de)) (hij:i≠j) (h:Q (decide (i<j)) s):wpAny C.M A (keyLt' oneType' (.ref x) (.ref y)) Q E s:=by
 have tx:Looks C.M s.heap (typeOf (.ref x)) (.ref aE):=(Looks.ld hx).andThen .now
 have ty:Looks C.M s.heap (typeOf (.ref y)) (.ref aE):=(Looks.ld hy).andThen .now
 have L1:=looks_findIn (M:=C.M) X hK.lt
 have isX:Looks C.M s.heap (isInstance (.ref x) (.type "tuple")) true:=tx.andThen (looks_subIn X hK.tup)
 have isY:Looks C.M s.heap (isInstance (.ref y) (.type "tuple")) true:=ty.andThen (looks_subIn X hK.tup)
 have bI:=Looks.of_pure (M:=C.M) (h:=s.heap) (xK.bind (.ref x))
 rw[keyLt'_oneType,oneLt'_eq]
 simp only[if_true]
 refine zzB (wpAny_cRoomFor hu ?_)
 have fin:wpAny C.M A (call (.builtin "tuple.__lt__") [.ref x,.ref y]) (λv s'=>v= .bool (decide (i<j))/\s'=s) E s:=by
  refine wpAny_call (codeAny_call_builtin v7 v8 (check_slot xL v6 isX (xM _ _) ?_))
  show wpAny _ _ (do
   if !(<-isInstance (.ref y) (.type "tuple")) then return<-ret .notImplemented
   let xs<-Builtin.Tuple.tupleItemsOf (.ref x)
   let ys<-Builtin.Tuple.tupleItemsOf (.ref y)
   for (x,y) in xs.toList.zip ys.toList do
    if !(<-eqBool x y) then
     rule "tuple.compare.by-the-first-pair-that-differs";return<-ret (<-richCompare .Lt x y)
   ret (Builtin.Tuple.tupleCompareSizes .Lt xs.size ys.size)) _ _ s
  refine zzB (isY.here ?_)
  rw[if_neg (by decide)]
  unfold Builtin.Tuple.tupleItemsOf
  refine zzB (zzB (wpAny_seqItems hx rfl (zzP (zzB (zzB (wpAny_seqItems hy rfl (zzP ?_)))))))
  show wpAny _ _ (forIn [(Value.int i t,Value.int j u),(x2,y2),(x3,y3)] _ _ >>=_) _ _ s
  rw[forIn_cons]
  refine zzB (zzB (zzB (wpAny_eqBool_int ?_)))
  rw[if_pos (by simpa using hij)]
  refine zzB (wpAny_rule (zzB ?_))
  show wpAny _ _ (compareOp .Lt (.int i t) (.int j u)) _ _ s
  refine lt_int ?_
  exact zzB (zzP (zzP (zzP (zzP ⟨rfl,rfl⟩))))
 refine zzB ?_
 delta callSpecialIfBound? bindSpecialIfBound?;dsimp only
 refine wpAny_holding (zzB (zzB (zzB (tx.here (L1.here ?_)))))
 refine zzB (wpAny_askSetting ?_)
 refine ifb bI ?_
 refine zzB (wpAny_mono fin ?_ λ_ _ z=>z)
 rintro v s' ⟨rfl,rfl⟩
 refine zzP ?_
 exact wpAny_truthy_bool h
end
section
variable {C:Cx}{r:Nat}{env:Env}
def dI:V->Int | .mat i _ _=>i |_=>0
def uY:V->Bool | .mat _ _ _=>true |_=>false
def okSort(vs:List V):Prop:=(∀ v∈vs,uY v=true)/\(vs.Pairwise λa b=>dI a≠dI b)/\vs.length<64
theorem VRs.map_getD{ρ:List Lc}{h:Heap}{us:List Value}{vs:List V}(rs:VRs ρ h us vs):∀ idx:List Nat,(∀ i∈idx,i<us.length)->VRs ρ h (idx.map λi=>us.getD i Value.none) (idx.map λi=>vs.getD i V.none)
 | [],_=>.nil
 |i::idx,hi=>by
  have hlt:=hi i (.head _)
  have hlt':i<vs.length:=by rw[<-rs.length];exact hlt
  refine xEA (rs.get (i:=i) (v:=vs[i]) (getElem?_eq_getElem hlt')) λu hu ru=>?_
  refine .cons ?_ (VRs.map_getD rs idx λj hj=>hi j (.tail _ hj))
  have e1:us.getD i Value.none=u:=by rw[getD_eq_getElem?_getD,hu];rfl
  have e2:vs.getD i V.none=vs[i]:=by rw[getD_eq_getElem?_getD,getElem?_eq_getElem hlt'];rfl
  show VR ρ h (us.getD i Value.none) (vs.getD i V.none)
  rw[e1,e2];exact ru
theorem rQ{α:Type}{kf:α->Int}:∀ {vs:List α},vs.length<2->isort kf vs=vs
 | [],_=>rfl
 | [v],_=>rfl
 |_::_::t,h=>absurd h (Nat.not_lt.mpr (le_add_left 2 t.length))
theorem w6(xs:Array Value):(arrOf (SortSt.mk' general' (xs.zip xs) #[] 7 none)).map (·.2)=xs:=by
 show(xs.zip xs).map (·.2)=xs
 apply Array.toList_inj.mp
 rw[Array.toList_map,Array.toList_zip]
 exact List.map_snd_zip (le_refl _)
inductive MatQ(h:Heap):Value->Int->Prop
 |mk {a:Addr}{i:Int}{t:Tok}{x2 x3:Value}{n:Nat}{dd:Option Addr} (g:h.get? a=some (o0 (.int i t) x2 x3 n dd)):MatQ h (.ref a) i
theorem mat_q{ρ:List Lc}{h:Heap}{u:Value}{v:V}(r:VR ρ h u v)(hm:uY v=true):MatQ h u (dI v):=by
 have r:=r.inv
 cases v with
 |mat i j k=>
  obtain⟨a,n,t,u',w,dd,rfl,g⟩:=r
  exact .mk g
 |_=>exact absurd hm Bool.false_ne_true
theorem tA{ρ:List Lc}{h:Heap}{us:List Value}{vs:List V}(rs:VRs ρ h us vs)(hm:∀ v∈vs,uY v=true){q:Nat}(hq:q<vs.length):MatQ h (us.getD q Value.none) (dI (vs.getD q V.none)):=by
 refine xEA (rs.get (getElem?_eq_getElem hq)) λu hu ru=>?_
 have m:=mat_q ru (hm vs[q] (List.getElem_mem hq))
 rw[getD_eq_getElem?_getD,hu,getD_eq_getElem?_getD,getElem?_eq_getElem hq];exact m
theorem wR{C:Cx}{h:Heap}{u:Value}{k:Int}(m:MatQ h u k):Looks C.M h (typeOf u) (.ref aE):=by
 cases m with
 |mk g=>exact(Looks.ld g).andThen .now
theorem aDt{C:Cx}{ρ:List Lc}{h:Heap}{us:List Value}{vs:List V}(rs:VRs ρ h us vs)(hm:∀ v∈vs,uY v=true):∀ u∈us,Looks C.M h (typeOf u) (.ref aE):=λu hu=>by
 refine xE (getElem?_of_mem hu) λq hq=>?_
 have m:=tA rs hm (rs.length▸(List.getElem?_eq_some_iff.mp hq).1:q<vs.length)
 rw[getD_eq_getElem?_getD,hq]at m
 exact wR m
theorem ord_f{n:Nat}{f:Nat->Int}(key:∀ a b,a<b->b<n->f a≠f b):Ord n (λa b=>decide (f a<f b)) where
 tr:=λx y z h1 h2=>decide_eq_true (Int.lt_trans (of_decide_eq_true h1) (of_decide_eq_true h2))
 tot:=λx y hx hy hne=>(Nat.lt_or_gt_of_ne hne).elim (λq=>(Int.lt_or_gt_of_ne (key x y q hy)).imp decide_eq_true decide_eq_true) λq=>(Int.lt_or_gt_of_ne (key y x q hx)).symm.imp decide_eq_true decide_eq_true
 asy:=λx y h=>decide_eq_false (not_lt.mpr (le_of_lt (of_decide_eq_true h)))
theorem aDg{vs:List V}(hd:vs.Pairwise λa b=>dI a≠dI b):Ord vs.length (λa b=>decide (dI (vs.getD a V.none)<dI (vs.getD b V.none))):=ord_f (f:=λa=>dI (vs.getD a V.none)) λa b hab hb=>by
  have:=List.pairwise_iff_getElem.mp hd a b (A53 hab hb) hb hab
  rw[getD_eq_getElem?_getD,getD_eq_getElem?_getD,getElem?_eq_getElem hb,getElem?_eq_getElem (A53 hab hb)];exact this
theorem wG{K:Frag}(hK:KMx C K){A:Around}{s:Shared}{ρ:List Lc}{H:MH}{i:Nat}{l:Lc}{vs:List V}{W:Addr->Prop}{P:PySem.Fin->Shared->Prop}(hu:A.units<cLine)(S:Sim C H ρ s)(hl:ρ[i]? =some l)(hH:H[i]? =some (.list vs))(hok:okSort vs)(h:∀ s',Sim C (H.set i (.list (isort dI vs))) ρ s'->Nx ρ W s ρ s'->P (.done (.ret .none)) s'):wpAny C.M A (Builtin.«list.sort» ⟨[.ref l.a],[]⟩) P NoE s:=by
 have hilt:i<H.length:=(List.getElem?_eq_some_iff.mp hH).1
 refine iW (S.objs i _ l hH hl) λg1 g2 xs n hx rs=>?_
 have hlen:=rs.length
 simp only[Array.length_toList]at hlen
 refine xAA hok λhm hd h64=>?_
 have stA:=iV.put (k:=s.toks) S ⟨hl,g1,g2,hH,hx,rs⟩ (λ_=> #[]) (vs':=[]) .nil
 have SA:=stA.1
 have NA:Nx ρ W s ρ _:=stA.2 W
 have hHA:(H.set i (.list []))[i]? =some (.list []):=getElem?_set_self hilt
 rw[list_sort_plain]
 have ho:s.heap.get? l.a=some (seqObj "list" xs n):=hx
 refine zzB (listItems_at ho rfl ?_)
 refine zzB (listUpdate_at ho rfl ?_ (by rw[sizeLine_eq];exact A48 hlen h64) (zero_le _))
 obtain⟨e1,ho1⟩:∃ e1,(s.heap.update l.a (Obj.mapSeq λ_=>(#[]:Array Value))).get? l.a=some (seqObj "list" #[] e1):=⟨_,get?_update_seq ho λ_=> #[]⟩
 refine zzB (seqEpoch_at ho1 rfl ?_)
 refine zzB (wpAny_newTuple ?_ (by rw[sizeLine_eq];simp;exact A48 hlen h64))
 refine zzB (wpAny_newList ?_ (zero_le _))
 refine wpAny_holding ?_
 let h3:Heap:=((s.heap.update l.a (Obj.mapSeq λ_=>(#[]:Array Value))).push (seqObj "tuple" xs.toList.toArray 0)).push (seqObj "list" #[] 0)
 have kp:∀ b o,(s.heap.update l.a (Obj.mapSeq λ_=>(#[]:Array Value))).get? b=some o->h3.get? b=some o:=λb o e=>Heap.get?_push_of_some _ (Heap.get?_push_of_some _ e)
 have S3:Sim C (H.set i (.list [])) ρ {s with heap:=h3}:=SA.extS kp
 have N3:Nx ρ W s ρ {s with heap:=h3}:=NA.trans (.ext (k:=s.toks) kp)
 have ho3:h3.get? l.a=some (seqObj "list" #[] e1):=kp _ _ ho1
 show wpAny C.M A _ P NoE {s with heap:=h3}
 dsimp only
 have rs3:VRs ρ h3 xs.toList vs:=rs.mono (prefix_refl _) N3.imm
 have fin:∀ (out:Array Value),VRs ρ h3 out.toList (isort dI vs)->out.size<=sizeLine/\P (.done (.ret .none)) {s with heap:=h3.update l.a (Obj.mapSeq λ_=>out)}:=by
  intro out ro
  refine iW (S3.objs i _ l hHA hl) λk1 k2 xs3 n3 hx3 rs3'=>?_
  have st:=iV.put (k:=s.toks) S3 ⟨hl,k1,k2,hHA,hx3,rs3'⟩ (λ_=>out) ro
  have hol:=ro.length
  have hsl:=(b7 dI vs).length_eq
  simp only[Array.length_toList]at hol
  refine⟨by rw[sizeLine_eq];exact A49 h64 hol hsl,h _ ?_ (N3.trans (st.2 W))⟩
  have:=st.1
  rw[set_set]at this
  exact this
 by_cases h2:xs.size<2
 ·rw[if_pos h2,if_pos h2]
  refine zzB (zzP ?_)
  rw[StateT.run_pure]
  refine zzB (zzP ?_)
  dsimp only
  have hs:isort dI vs=vs:=rQ (hlen▸h2)
  refine xA (fin xs (by rw[hs];exact rs3)) λf1 f2=>?_
  refine zzB (seqEpoch_at (s:= {s with heap:=h3}) ho3 rfl ?_)
  rw[w6]
  refine zzB (listUpdate_at (s:= {s with heap:=h3}) ho3 rfl ?_ (zero_le _) (le_succ_of_le f1))
  simp only[bne_self_eq_false,false_eq_true,if_false]
  exact zzP f2
 ·rw[if_neg h2,if_neg h2]
  have hv2:2<=xs.toList.length:=by simp;exact A51 h2
  have X3:K.In h3:=hK.toK.mem.keeps S3.keep
  have hT:=aDt (C:=C) rs3 hm
  have ek:xs=xs.toList.toArray:=by simp
  rw[ek]
  refine zzB (kas_kind (s:= {s with heap:=h3}) hv2 hT (by decide) (by decide) ?_)
  have est:SortSt.mk' oneType' (xs.toList.toArray.zip xs.toList.toArray) #[] 7 none=kas_st oneType' (pairsOf xs.toList) (List.toArray (List.range xs.toList.length)):=by
   have e:=kas_range (pairsOf xs.toList)
   rw[pairsOf_size]at e
   show SortSt.mk' oneType' (pairsOf xs.toList) #[] 7 none=SortSt.mk' oneType' ((List.toArray (List.range xs.toList.length)).map (kas_item (pairsOf xs.toList))) #[] 7 none
   rw[e]
  have hvl:xs.toList.length=vs.length:=by simp [hlen]
  have O:=aDg hd
  have pw:=aC4 O (A57 hv2 hvl)
  have ask:(kas_sort xs.toList.length).kasWp (kas_cmp C.prog C.w A oneType' (pairsOf xs.toList)) (λp s'=>(Pm vs.length p/\Sd (λa b=>decide (dI (vs.getD a V.none)<dI (vs.getD b V.none))) p vs.length)/\s'= {s with heap:=h3}) {s with heap:=h3}:=by
   rw[hvl,<-kas_ask_eq]
   refine PW.wp (I:=λs'=>s'= {s with heap:=h3}) (λi j D s' hi hj hij hs' hD=>?_) (λp s' hp hs'=>⟨hp,hs'⟩) pw _ rfl
   subst hs'
   have hne:dI (vs.getD i V.none)≠dI (vs.getD j V.none):=by
    exact λe=>(O.tot i j hi hj hij).elim (λq=>absurd e (Int.ne_of_lt (of_decide_eq_true q))) λq=>absurd e.symm (Int.ne_of_lt (of_decide_eq_true q))
   have MA:=tA rs3 hm hi
   have MB:=tA rs3 hm hj
   have hD':=hD _ rfl
   unfold kas_ask
   revert MA MB hne hD'
   generalize xs.toList.getD i Value.none=ua
   generalize xs.toList.getD j Value.none=ub
   generalize dI (vs.getD i V.none)=ka
   generalize dI (vs.getD j V.none)=kb
   intro hne MA MB hD'
   cases MA with
   |mk ha=>cases MB with
    |mk hb=>exact lt_mat hK hu X3 ha hb hne hD'
  have run:=kas_runs (E:=NoE) (Q:=λ_ st' s'=>∃ p:Array Nat,p.size=xs.toList.length/\arrOf st'=p.map (kas_item (pairsOf xs.toList))/\failedOf st'=none/\(Pm vs.length p/\Sd (λa b=>decide (dI (vs.getD a V.none)<dI (vs.getD b V.none))) p vs.length)/\s'= {s with heap:=h3})
   hv2 (by rw[hvl];exact h64) (λp' st' s' a1 a2 a3 a4=>⟨p',a1,a2,a3,a4⟩) ask
  rw[<-est]at run
  refine zzB (wpAny_mono run ?_ λ_ _ e=>e)
  rintro ⟨⟨⟩,st'⟩ s' ⟨p,hp,har,hf,⟨hP,hS⟩,rfl⟩
  dsimp only
  have hout:(arrOf st').map (·.2)=List.toArray (p.toList.map λi=>xs.toList.getD i Value.none):=by
   apply Array.toList_inj.mp
   rw[har,Array.map_map,Array.toList_map]
   exact List.map_congr_left λi _=>by show(kas_item (pairsOf xs.toList) i).2=_;rw[kas_item_eq]
  have hlt:∀ i∈p.toList,i<xs.toList.length:=λi hi=>by
   have h1:p.toList.Perm (List.range vs.length):=by simpa using hP.pm.toList
   have:=h1.mem_iff.mp hi
   rw[hvl];simpa using this
  refine xA (fin (List.toArray (p.toList.map λi=>xs.toList.getD i Value.none)) (by
   have:=rs3.map_getD p.toList hlt
   rw[out_eq V.none dI hd hP hS]at this
   simpa using this)) λf1 f2=>?_
  refine zzB (seqEpoch_at (s:= {s with heap:=h3}) ho3 rfl ?_)
  rw[hout]
  refine zzB (listUpdate_at (s:= {s with heap:=h3}) ho3 rfl ?_ (zero_le _) (le_succ_of_le f1))
  rw[hf]
  simp only[bne_self_eq_false,false_eq_true,if_false]
  exact zzP f2
end
section
variable {C:Cx}{r:Nat}{env:Env}
def aBr(f:EF):EF:=λlo H Q=>f lo H λa H1=>Lf a.rf λi=>Lf (H1[i]?.bind MO.own) λvs=>okSort vs/\Q .none (H1.set i (.list (isort dI vs)))
theorem EV.sort{K:Frag}(hK:KMx C K){o:Expr}{f:EF}{apos pos:Pos}(ho:EV C (r+1) env o f)(sh:eX env o "sort" apos pos []):EV C (r+1) env (.Call (.Attribute o "sort" apos) [] [] pos) (aBr f):=λA s ρ H lo Q hr S F q=>oZ ho sh PySem.F.slot_list_sort PySem.F.type_list_sort hr S F q (λv H1 q=>q.elim λi hi q=>q.elim λvs hv _=>⟨i,vs,hi,lZ hv⟩) λ{s1 ρ1 l i vs xs n H1} S1 N1 O q=>by
  refine q.elim λi' hi q=>?_
  cases hi
  refine q.elim λws hw q=>?_
  obtain rfl:=O.same hw
  refine callWith_of (P:=λh=>∀ b o,C.base.heap.get? b=some o->h.get? b=some o) rfl b6 (wmN (jS (C:=C) (f:=.builtin "list.sort") (pos:=pos) EVs.nil (env:=env) ⟨.inl rfl,λ_=>rfl⟩ hr S1 (F.nx N1) (Q:=λvs H'=>vs= []/\H'=H1) ⟨rfl,rfl⟩) λa s2 p=>?_)
  obtain⟨ps,kw⟩:=a
  obtain⟨hkw,S2,N2,rs,e1,e2⟩:=p
  cases hkw
  subst e1 e2
  cases rs
  refine⟨S2.keep,?_⟩
  refine xEE (iZ S2 (aO N2.pre O.g) O.h) λxs n O2=>?_
  refine wpAny_call_entry PyProof.Rows.slot_list_sort ⟨_,O2.x,rfl⟩ PyProof.Rows.entry_list_sort ?_ (PyProof.Rows.args_list_sort _)
  refine wG hK (W:=noW) ?_ S2 O2.g O.h q.1 λs3 S3 N3=>⟨.none,rfl,S3,(N1.trans N2).trans N3,.none,q.2⟩
  have:=hr.2.2
  show A.units+1<9900
  exact A59 this
theorem SV.doc{x:Str}{k:Nat}{p pos:Pos}(hi:interactive env=false)(hs:swapsWith (.Constant (.str x) k p) none pos.line env=pure false):SV C r env (.Expr (.Constant (.str x) k p) pos) (sK .next):=SV.expr (f:=eK (.str x)) EV.str hi hs
theorem OpR.iadd:OpR C r (inplaceOp .Add) mU:=OpR.i2 λ_ _ k=>PySem.AutoIntOps.iadd_0 (k _ _ (.int _ _))
theorem Room.le{a b:Nat}{A:Around}(h:ble a b=true)(hr:Room b A):Room a A:=by
 have:=le_of_ble_eq_true h
 refine xAA hr λh1 h2 h3=>?_
 exact⟨h1,A60 this h2,A61 this h3⟩
theorem CV.lift{a b:Nat}{f:Value}{g:CF}(h:CV C a f g)(q:ble a b=true):CV C b f g:=⟨h.keep,λhr S rs e=>h.call (hr.le q) S rs e⟩
end
section
noncomputable abbrev AnyT:=∀ {α:Type} (as:Array α),(α->Bool)->optParam Nat 0->optParam Nat as.size->Bool
def anyL:AnyT:=λ{α} as p i j=>match beq i 0,beq j as.size with
 |true,true=>as.toList.any p
 |_,_=>as.any p i j
theorem aEr: @Eq AnyT @Array.any.{0} @anyL:=by
 funext α as p i j
 unfold anyL
 cases h1:beq i 0 with
 |false=>rfl
 |true=>cases h2:beq j as.size with
  |false=>rfl
  |true=>
   cases Nat.eq_of_beq_eq_true h1
   cases Nat.eq_of_beq_eq_true h2
   exact Array.any_toList.symm
theorem holdT{P:Prop}(_:P):True:=trivial
set_option maxHeartbeats 1000000 in
@[irreducible] noncomputable def tnG: {G:AnyT->Builtin // PySem.W.Fast.tw4202317264376624991=G @Array.any.{0}}:=let G:AnyT->Builtin:=_
 let u:True:=holdT (P:=PySem.W.Fast.tw4202317264376624991=G @Array.any.{0}) (by
  delta PySem.W.Fast.tw4202317264376624991
  generalize @Array.any.{0}=A
  exact rfl)
 ⟨G,@Eq.refl Builtin PySem.W.Fast.tw4202317264376624991⟩
end
section
open PySem.Sem (wp)
noncomputable abbrev Ev(α:Type):=Pos->BT->Nat->Nat->Option (Except Value α×Pos×BT×Nat×Nat)
noncomputable abbrev Cf:=Ctx->Pos->BT->Nat->Nat->Option (Result×BT×Nat×Nat)
def evS{α:Type}(cf:Cf)(S:Setting)(Γ:Ctx)(t:Sem α):Ev α:=@Sem.rec α (λ_=>Ev α)
  (λa p T n k=>some (.ok a,p,T,n,k))
  (λe p T n k=>some (.error e,p,T,n,k))
  (λ_ _ _ _ _=>none)
  (λ_ _ _ _ _=>none)
  (λ_ _ ih p T n k=>ih () p T n k)
  (λq _ ih _ T n k=>ih () q T n k)
  (λa _ _ ih p T n k=>bif blt a n then(T.get a).bind λo=>(alive o).bind λo'=>ih o' p T n k else none)
  (λa _ f _ ih p T n k=>bif blt a n then(T.get a).bind λo=>(alive o).bind λ_=>ih () p (T.set a f) n k else none)
  (λo _ ih p T n k=>bif ((T.ins n o).get n).isSome then ih n p (T.ins n o) (n+1) k else none)
  (λa _ ih p T n k=>bif blt a n then(T.get a).bind λo=>ih (alive o) p T n k else ih none p T n k)
  (λ_ _ ih p T n k=>ih () p T n k)
  (λ_ _ _ _ _ _ _=>none)
  (λ_ ih p T n k=>ih k p T n (k+1))
  (λ_ ih p T n k=>ih S p T n k)
  (λ_ _ _ _ _ _ _ _=>none)
  (λ_ _ _ _ _ _ _ _=>none)
  (λc h _ _ _ ih p T n k=>(cf (Γ.enter c h p) p T n k).bind λy=>ih y.1 p y.2.1 y.2.2.1 y.2.2.2)
  (λown _ ih p T n k=>ih (if own then Γ.own else Γ.handled) p T n k)
  (λ_ _ _ _ _ _ _=>none)
  (λ_ _ _ _ _ _ _=>none)
  (λ_ _ _ _ _ _ _ _ _=>none)
  (λ_ _ _ _ _ _ _ _ _=>none)
  (λ_ ih p T n k=>ih ((Γ.code,p)::Γ.below) p T n k)
  (λ_ _ _ _ _ _ _=>none)
  (λ_ ih p T n k=>ih 0 p T n k)
  (λ_ _ _ _ _ _ _ _ _ _=>none) t
variable (M:Model)(life:Life)(gens:Array GenState)(drawn:Drawn)(os:OsState)
def ab(T:BT)(n k:Nat):Shared:=⟨absHeap T n life,gens,drawn,k,os⟩
def Ph{α:Type}(Q:α->Pos->Shared->Prop)(E:Value->Pos->Shared->Prop):Option (Except Value α×Pos×BT×Nat×Nat)->Prop
 |some (.ok a,p,T,n,k)=>Q a p (ab life gens drawn os T n k)
 |some (.error e,p,T,n,k)=>E e p (ab life gens drawn os T n k)
 |none=>False
def PhC(R:Result->Shared->Prop):Option (Result×BT×Nat×Nat)->Prop
 |some (r,T,n,k)=>R r (ab life gens drawn os T n k)
 |none=>False
theorem ob{β γ:Type}{P:Option γ->Prop}(h0: ¬P none){o:Option β}{f:β->Option γ}(h:P (o.bind f)):∃ y,o=some y/\P (f y):=by
 cases o with
 |none=>exact absurd h h0
 |some y=>exact⟨y,rfl,h⟩
theorem obb{γ:Type}{P:Option γ->Prop}(h0: ¬P none){b:Bool}{x:Option γ}(h:P (bif b then x else none)):b=true/\P x:=by
 cases b with
 |false=>exact absurd h h0
 |true=>exact⟨rfl,h⟩
theorem aBl{α:Type}{cf:Cf}{Γ:Ctx}(hcf:∀ {Γ p T n k R},PhC life gens drawn os R (cf Γ p T n k)->wpCode M Γ R p (ab life gens drawn os T n k))(t:Sem α):∀ {Q:α->Pos->Shared->Prop}{E:Value->Pos->Shared->Prop}{p T n k},Ph life gens drawn os Q E (evS cf ⟨M.prog,M.w.params⟩ Γ t p T n k)->wp M Γ t Q E p (ab life gens drawn os T n k):=by
 induction t with
 |pure a=>intro Q E p T n k h;exact h
 |raise e=>intro Q E p T n k h;exact h
 |unsupported |finish |register |choose |os |genState |newGen |resume | «yield» |fork |await=>intro Q E p T n k h;exact h.elim
 |rule _ k ih=>intro Q E p T n k h;exact ih () h
 | «at» q k ih=>intro Q E p T n k h;exact ih () h
 |point _ k ih=>intro Q E p T n k h;exact ih () h
 |ask k ih=>intro Q E p T n k h;exact ih _ h
 |thread k ih=>intro Q E p T n k h;exact ih _ h
 |stack k ih=>intro Q E p T n k h;exact ih _ h
 |handled own k ih=>intro Q E p T n k h;exact ih _ h
 |fresh k ih=>intro Q E p T n k h;exact ih _ h
 |load a part k ih=>
  intro Q E p T n j h
  refine xA (obb (P:=Ph life gens drawn os Q E) id h) λhb h=>?_
  refine xEA (ob (P:=Ph life gens drawn os Q E) id h) λo hg h=>?_
  refine xEA (ob (P:=Ph life gens drawn os Q E) id h) λo' ho h=>?_
  exact⟨o',(abs_get (le_of_ble_eq_true hb) hg).trans ho,ih o' h⟩
 |update a part f k ih=>
  intro Q E p T n j h
  refine xA (obb (P:=Ph life gens drawn os Q E) id h) λhb h=>?_
  refine xEA (ob (P:=Ph life gens drawn os Q E) id h) λo hg h=>?_
  refine xEA (ob (P:=Ph life gens drawn os Q E) id h) λo' ho h=>?_
  have:=ih () h
  unfold ab at this
  rw[absHeap_set hg]at this
  exact⟨by show((absHeap T n life).get? a).isSome=true;rw[abs_get (le_of_ble_eq_true hb) hg,ho];rfl,this⟩
 |alloc o k ih=>
  intro Q E p T n j h
  refine xA (obb (P:=Ph life gens drawn os Q E) id h) λhb h=>?_
  have:=ih n h
  show wp M Γ (k (absHeap T n life).objs.size) _ _ p {ab life gens drawn os T n j with heap:=(absHeap T n life).push o}
  rw[absHeap_size,<-absHeap_ins hb]
  exact this
 |loadIfAlive a k ih=>
  intro Q E p T n j h
  show wp M Γ (k ((absHeap T n life).get? a)) _ _ p _
  revert h
  show Ph life gens drawn os Q E (bif blt a n then _ else _)->_
  cases hb:blt a n with
  |false=>
   intro h
   rw[abs_get_none (λq=>by rw[show blt a n=true from Nat.ble_eq_true_of_le q]at hb;cases hb)]
   exact ih _ h
  |true=>
   intro h
   refine xEA (ob (P:=Ph life gens drawn os Q E) id h) λo hg h=>?_
   rw[abs_get (le_of_ble_eq_true hb) hg]
   exact ih _ h
 |call c hd g l k ih=>
  intro Q E p T n j h
  refine hcf (R:=λr s=>wp M Γ (k r) Q E p s) ?_
  refine xEA (ob (P:=Ph life gens drawn os Q E) id h) λy hc h=>?_
  rw[hc]
  exact ih _ h
def evC(den:Code->Sem Fin)(S:Setting)(f:Nat):Cf:=@Nat.rec (λ_=>Cf) (λ_ _ _ _ _=>none) (λ_ rec Γ p T n k=>match evS rec S Γ (den Γ.code) p T n k with
  |some (.ok (.done fl),_,T',n',k')=>some ((Except.ok fl:Result),T',n',k')
  |some (.ok (.again c),p',T',n',k')=>bif c.quiet then rec (Γ.goto c) p' T' n' k' else none
  |some (.error e,_,T',n',k')=>some ((Except.error e:Result),T',n',k')
  |none=>none) f
theorem tO:∀ (f:Nat){Γ R p T n k},PhC life gens drawn os R (evC M.den ⟨M.prog,M.w.params⟩ f Γ p T n k)->wpCode M Γ R p (ab life gens drawn os T n k)
 |0,_,_,_,_,_,_,h=>h.elim
 |f+1,Γ,R,p,T,n,k,h=>by
  rw[wpCode_iff_wp]
  refine aBl M life gens drawn os (λhq=>tO f hq) (M.den Γ.code) ?_
  revert h
  show PhC life gens drawn os R (match evS (evC M.den ⟨M.prog,M.w.params⟩ f) ⟨M.prog,M.w.params⟩ Γ (M.den Γ.code) p T n k with
   |some (.ok (.done fl),_,T',n',k')=>some ((Except.ok fl:Result),T',n',k')
   |some (.ok (.again c),p',T',n',k')=>bif c.quiet then evC M.den ⟨M.prog,M.w.params⟩ f (Γ.goto c) p' T' n' k' else none
   |some (.error e,_,T',n',k')=>some ((Except.error e:Result),T',n',k')
   |none=>none)->_
  cases evS (evC M.den ⟨M.prog,M.w.params⟩ f) ⟨M.prog,M.w.params⟩ Γ (M.den Γ.code) p T n k with
  |none=>exact False.elim
  |some y=>
   obtain⟨x,p₁,T₁,n₁,k₁⟩:=y
   cases x with
   |error e=>exact id
   |ok fin=>cases fin with
    |done fl=>exact id
    |again c=>
     intro h
     revert h
     show PhC life gens drawn os R (bif c.quiet then evC M.den ⟨M.prog,M.w.params⟩ f (Γ.goto c) p₁ T₁ n₁ k₁ else none)->_
     intro h
     refine xA (obb (P:=PhC life gens drawn os R) id h) λhq h=>?_
     exact⟨hq,tO f h⟩
end
section
def setDoc(D:Str):Stmt->Stmt
 | .ClassDef n b k (.Expr (.Constant (.str _) x q) q'::rest) d t s ts bi st p=>.ClassDef n b k (.Expr (.Constant (.str D) x q) q'::rest) d t s ts bi st p
 |x=>x
def setAt(D:Str):List Stmt->List Stmt
 |a::b::c::d::e::f::r=>a::b::c::d::e::setDoc D f::r
 |l=>l
def aCq(p:Program)(D:Str):Program:= {p with main:= {p.main with body:=setAt D p.main.body}}
def tn:Builtin:=tnG.1 @anyL
theorem tn_eq:Builtin.«type.__new__»=tn:=(PySem.W.Fast.te4202317264376624991).trans (tnG.2.trans (congrArg tnG.1 aEr))
def tbl(id:String):Option Builtin:=match PySem.W.S.eqLit (PySem.code "type.__new__") id with
 |true=>some tn
 |false=>PySem.W.Fast.tw14364793385576792824 id
theorem tbl_eq:table=tbl:=by
 funext id
 unfold tbl
 have h:=congrFun (PySem.W.S.eqLit_eq "type.__new__" _ rfl) id
 rw[<-h]
 by_cases e:id="type.__new__"
 ·subst e
  have:(("type.__new__" :String)=="type.__new__")=true:=beq_self_eq_true _
  rw[this]
  show table "type.__new__" =some tn
  rw[<-tn_eq]
  have:entryFor table "type.__new__" =some Builtin.«type.__new__»:=entryFor_of_fast ⋯
  rw[table_eq_tree]
  kernel_rfl
 ·have:(id=="type.__new__")=false:=beq_eq_false_iff_ne.mpr e
  rw[this]
  show table id=PySem.W.Fast.tw14364793385576792824 id
  rw[table_eq_tree,PySem.W.Fast.te14364793385576792824]
def den:Code->Sem Fin:=PySem.W.Fast.tw11892475500146522536 tbl
theorem den_eq:denote table=den:=by
 unfold den
 rw[tbl_eq,PySem.W.Fast.te11892475500146522536]
def btOf(l:List Obj):BT:=(l.zipIdx).foldl (λt x=>t.ins x.2 x.1) .nil
def bt0(P:Params):BT:=btOf [boot_o_0 P,boot_o_1 P,boot_o_2 P,boot_o_3 P,boot_o_4 P,boot_o_5 P,boot_o_6 P,boot_o_7 P,boot_o_8 P,boot_o_9 P,boot_o_10 P]
def Γ0:Ctx:=⟨.builtin "claim.caller" {},none,none,[],none⟩
def uA(p:Program)(w:World):=evS (evC den ⟨p,w.params⟩ 3000) ⟨p,w.params⟩ Γ0 (topStub p).cur default (bt0 w.params) 11 boot_toks
end
section
def Jn(t:Thread):Step->Prop
 | .halt (.done _) _=>through t=true
 |_=>True
theorem Jn.ite{t:Thread}{x:Bool}{a b:Step}(ha:Jn t a)(hb:Jn t b):Jn t (if x=true then a else b):=by
 cases x with
 |true=>exact ha
 |false=>exact hb
theorem Jn.itp{t:Thread}{c:Prop}[Decidable c]{a b:Step}(ha:Jn t a)(hb:Jn t b):Jn t (if c then a else b):=by
 by_cases h:c
 ·rw[if_pos h];exact ha
 ·rw[if_neg h];exact hb
theorem stepJ{den:Code->Sem Fin}{p:Program}{w:World}{s:Shared}{t:Thread}:Jn t (step den p w s t):=by
 obtain⟨heap,gens,drawn,toks,os⟩:=s
 obtain⟨cur,code,pos,stack⟩:=t
 cases cur with
 |pure a=>cases a with
  |again c=>trivial
  |done f=>cases stack with
   |nil=>exact Jn.ite (x:=leftWithCleanup gens) trivial rfl
   |cons fr rest=>cases fr<;>trivial
 |raise e=>cases stack with
  |nil=>exact Jn.ite (x:=leftWithCleanup gens) trivial trivial
  |cons fr rest=>cases fr<;>trivial
 |unsupported _=>trivial
 |finish e=>exact Jn.ite (x:=leftWithCleanup gens) trivial trivial
 |rule _ k=>trivial
 | «at» p k=>trivial
 |load a _ k=>
  delta step;dsimp only
  cases heap.get? a<;>trivial
 |update a _ f k=>exact Jn.ite (x:=(heap.get? a).isSome) trivial trivial
 |alloc o k=>trivial
 |loadIfAlive a k=>trivial
 |point _ k=>trivial
 |register _ _=>trivial
 |fresh k=>trivial
 |ask k=>trivial
 |choose src n k=>exact Jn.itp (c:=n=0) trivial trivial
 |os q _ k=>trivial
 |call c h g l k=>trivial
 |handled own k=>trivial
 |newGen c k=>trivial
 |genState g k=>
  delta step;dsimp only
  cases gens[g]? <;>trivial
 |resume g r l k=>
  delta step;dsimp only
  cases gens[g]? with
  |none=>trivial
  |some x=>cases x with
   |fresh c=>cases r with
    |send v=>cases v<;>trivial
    |throw e=>trivial
   |_=>trivial
 |yield v g0 l kk=>
  delta step;dsimp only
  cases splitAtGen stack<;>trivial
 |stack k=>trivial
 |fork _ _=>trivial
 |thread k=>trivial
 |await _ _ _ _ _=>trivial
theorem pH{den:Code->Sem Fin}{p:Program}{w:World}{f:Flow}{s':Shared}(n:Nat):∀ (s:Shared) (t:Thread),runN den p w n s t= .halted (.done f) s'-> ∃ m t',runN den p w m s t= .running s' t'/\through t'=true:=by
 induction n with
 |zero=>intro s t h;cases h
 |succ n ih=>
  intro s t h
  have hj:=stepJ (den:=den) (p:=p) (w:=w) (s:=s) (t:=t)
  have he:=step_halt_same den p w s s' t (.done f)
  replace h:(match step den p w s t with | .go s' t'=>runN den p w n s' t' | .halt o s'=>.halted o s')=Run.halted (.done f) s':=h
  have hm:∀ m,runN den p w (m+1) s t=(match step den p w s t with | .go s' t'=>runN den p w m s' t' | .halt o s'=>.halted o s'):=λm=>rfl
  revert h hj he hm
  cases step den p w s t with
  |go s₂ t₂=>
   intro hj he h hm
   refine gZ (ih s₂ t₂ h) λm t' h1 ht=>?_
   exact⟨m+1,t',(hm m).trans h1,ht⟩
  |halt o s₂=>
   intro hj he h hm
   cases h
   exact⟨0,t,congrArg (Run.running · t) (he rfl).symm,hj⟩
theorem qY{p:Program}{w:World}{s S₁:Shared}(hz:s.asleep)(hg:S₁.gens= #[])(h:Sem.wp (model p w) Γ0 (topStub p).cur (λfin _ s'=>fin= .done (.ret .none)/\s'=S₁) (λ_ _ _=>False) default s):∃ n t,schedN (denote table) p w n (.single s (topStub p))= .running (.single S₁ t)/\through t=true:=by
 have h':Sem.wp (model p w) ⟨.builtin "claim.caller" {},none,none,[],none⟩ (topStub p).cur
   (Sem.finPost (model p w) ⟨.builtin "claim.caller" {},none,none,[],none⟩ λr s'=>(r= .ok (.ret .none)/\s'=S₁)/\leftWithCleanup s'.gens=false)
   (λe _ s'=>((.error e:Result)= .ok (.ret .none)/\s'=S₁)/\leftWithCleanup s'.gens=false) default s:=by
  refine Sem.wp_mono _ _ _ ?_ (λ_ _ _ x=>x.elim) _ _ h
  rintro fin q s' ⟨rfl,rfl⟩
  exact⟨⟨rfl,rfl⟩,by rw[hg];decide+kernel⟩
 obtain⟨n,r,s',hn,rfl,rfl⟩:=(wp_iff_halts (M:=model p w) _ _ _ _).mp h'
 refine cX (runNI_real (denote table) p w hn (outcomeOf_ends _)) λs'' hr hf hc=>?_
 have e:=Shared.eq_of_forget_eq hf hg
 subst e
 refine gZ (pH n s (topStub p) hr) λm t' hm ht=>?_
 have hne:∀ k s₂,runN (denote table) p w k s (topStub p)≠ .halted (.unsupported "lifetime:generator-with-cleanup-left-suspended") s₂:=by
  intro k s₂ hk
  have a:=runN_mono (denote table) p w n k s (topStub p) _ _ hr
  have b:=runN_mono (denote table) p w k n s (topStub p) _ s₂ hk
  rw[add_comm,b]at a
  injection a with a1 _
  cases a1
 exact⟨m,t',(schedN_eq_runN (denote table) p w s (topStub p) hz ⟨hc,hne⟩ m).trans (congrArg Run.lift hm),ht⟩
end
section
def docS(p:Program):Str:=match (p.main.body.drop 5).head? with
 |some (PySem.Stmt.ClassDef _ _ _ body _ _ _ _ _ _ _)=>(docOf body).getD ⟨#[]⟩
 |_=>⟨#[]⟩
noncomputable abbrev pw:Program:=PySem.Challenge.pw_dm0053_02
def docL: {l:List Char // docS pw=⟨(l.map Char.toNat).toArray⟩}:=⟨_,Fast.ofString_ofList _⟩
def docD:Str:=⟨(docL.1.map Char.toNat).toArray⟩
def pR:Program:=aCq pw docD
theorem p_eq:pw=pR:=by
 unfold pR docD
 rw[<-docL.2]
 kernel_rfl
def stA(i:Nat):Stmt:=(pw.main.body.drop i).headD (.Pass ⟨0,0,0,0⟩)
def inCls:Stmt->List Stmt
 | .ClassDef _ _ _ body _ _ _ _ _ _ _=>body
 |_=>[]
def stB(i j:Nat):Stmt:=((inCls (stA i)).drop j).headD (.Pass ⟨0,0,0,0⟩)
def fPar:Stmt->Arguments
 | .FunctionDef _ a _ _ _ _ _ _ _ _=>a
 |_=>⟨[],[],none,[],[],none,[]⟩
def cL:Stmt->List Stmt
 | .FunctionDef _ _ b _ _ _ _ _ _ _=>b
 |_=>[]
def fSco:Stmt->Scope
 | .FunctionDef _ _ _ _ _ _ s _ _ _=>s
 |_=>default
def r9(s:Stmt):Str:=(docOf (cL s)).getD ⟨#[]⟩
noncomputable abbrev kE(P:Params)(n:Str)(t:Nat)(v:Value):DictEntry:=⟨PyData.keyHash P n,.str n t,v⟩
def cOx(x y:Nat->Value)(z:Nat)(n q:Str)(t l a f r e:Nat):Obj:=⟨.type "code",none,.fields #[.str n t,.str q (t+1),.str "/claim/cut.py" (t+2),.int l 0,.int a 0,.int 0 0,.int 0 0,.int f 0,.ref r,.bool true,.int 181 0,.ref (r+1),.none,x r,y r,.ref (r+z),.int e 0,.int l 0,.str "/claim/cut.py" (e+1)],#[]⟩
def cO:Str->Str->Nat->Nat->Nat->Nat->Nat->Nat->Obj:=cOx (λr=>.ref (r+2)) (λr=>.ref (r+3)) 4
def cO0:Str->Str->Nat->Nat->Nat->Nat->Nat->Nat->Obj:=cOx (λ_=>.none) (λ_=>.none) 2
def fOx(m:Value)(n q:Str)(s:Stmt)(d doc:Value)(an:Option Nat)(c:Nat):Obj:=⟨.type "function",none,.func {name:=n,qualname:=q,params:=fPar s,body:=.stmts (cL s),scope:=fSco s,globals:=3,closure:=[],defaults:=d,kwdefaults:=.none,doc:=doc,pyModule:=m,annotations:=an,code:=.ref c,closureTuple:=.none,builtins:=0},#[]⟩
def fO:Str->Str->Stmt->Value->Value->Option Nat->Nat->Obj:=fOx (.str "cpy313.difflib" 194)
def o3(P:Params):Obj:=⟨(.type "dict"),none,(Data.dict #[kE P "__name__" 165 (.str "law_dm0053_02" 592),kE P "__doc__" 166 .none,kE P "__package__" 167 .none,kE P "__loader__" 168 (.builtin "__main__.__loader__#opaque"),kE P "__spec__" 169 .none,kE P "__annotations__" 170 (.ref 6),kE P "__builtins__" 171 (.ref 4),kE P "__file__" 173 (.str "/claim/cut.py" 172),kE P "__cached__" 174 .none,kE P "_wall" 193 (.ref 21),kE P "_tuplegetter" 252 (.ref 60),kE P "Match" 380 (.ref 135),kE P "_calculate_ratio" 388 (.ref 145),kE P "SequenceMatcher" 591 (.ref 242),kE P "_law_lists" 604 (.ref 253),kE P "_law_parts" 618 (.ref 260),kE P "_law_cheapest" 634 (.ref 267),kE P "_law_shown" 652 (.ref 274),kE P "law" 658 (.ref 279)] 19),#[]⟩
def o81(P:Params):Obj:=cO "__new__" "Match.__new__" 274 29 4 3 76 281
def o82(P:Params):Obj:=fO "__new__" "Match.__new__" (stB 3 4) .none (.str "Create new instance of Match(a, b, size)" 283) none 81
def o88(P:Params):Obj:=cO "_make" "Match._make" 285 33 2 3 83 291
def o89(P:Params):Obj:=fO "_make" "Match._make" (stB 3 5) .none (.str "Make a new Match object from a sequence or iterable" 293) (some 92) 88
def o91(P:Params):Obj:=⟨(.type "classmethod"),(some 90),(Data.fields #[(.ref 89),(.bool false)]),#[]⟩
def o134(P:Params):Obj:=⟨(.type "dict"),none,(Data.dict #[kE P "__module__" 260 (.str "cpy313.difflib" 194),kE P "__firstlineno__" 264 (.int 23 263),kE P "__doc__" 266 (.str "Match(a, b, size)" 265),kE P "__slots__" 268 (.ref 73),kE P "_fields" 272 (.ref 74),kE P "_field_defaults" 273 (.ref 75),kE P "__new__" 284 (.ref 136),kE P "_make" 306 (.ref 91),kE P "_replace" 317 (.ref 100),kE P "__replace__" 318 (.ref 100),kE P "__repr__" 326 (.ref 107),kE P "_asdict" 333 (.ref 114),kE P "__getnewargs__" 341 (.ref 121),kE P "__match_args__" 345 (.ref 122),kE P "a" 355 (.ref 124),kE P "b" 365 (.ref 127),kE P "size" 375 (.ref 130),kE P "__static_attributes__" 376 (.ref 132)] 2),#[]⟩
def o135(P:Params):Obj:=⟨(.type "type"),none,(Data.cls {name:="Match",bases:=[(.type "tuple")],mro:=[(.ref 135),(.type "tuple"),(.type "object")],ns:=134,qualname:="Match",hasDict:=false,slotNames:=[],subclasses:=[],abstract:=false,collection:=none,hasDel:=false}),#[some (.ref 65),none,some (.str "Match" 253),some (.str "Match" 261),some .none,some (.bool false)]⟩
def o136(P:Params):Obj:=⟨(.type "staticmethod"),none,(Data.fields #[(.ref 82)]),#[]⟩
def o153(P:Params):Obj:=⟨(.type "tuple"),none,(Data.seq #[.none,(.str "" 404),(.str "" 405),(.bool true)] 0),#[]⟩
def o159(P:Params):Obj:=cO "__init__" "SequenceMatcher.__init__" 406 145 5 3 154 414
def wK(P:Params):Obj:=fO "__init__" "SequenceMatcher.__init__" (stB 5 1) (.ref 153) (.str (r9 (stB 5 1)) 416) none 159
def o166(P:Params):Obj:=cO "set_seqs" "SequenceMatcher.set_seqs" 418 173 3 3 161 424
def y8(P:Params):Obj:=fO "set_seqs" "SequenceMatcher.set_seqs" (stB 5 2) .none (.str (r9 (stB 5 2)) 426) none 166
def o173(P:Params):Obj:=cO "set_seq1" "SequenceMatcher.set_seq1" 428 184 2 3 168 433
def y7(P:Params):Obj:=fO "set_seq1" "SequenceMatcher.set_seq1" (stB 5 3) .none (.str (r9 (stB 5 3)) 435) none 173
def o180(P:Params):Obj:=cO "set_seq2" "SequenceMatcher.set_seq2" 437 209 2 3 175 442
def y6(P:Params):Obj:=fO "set_seq2" "SequenceMatcher.set_seq2" (stB 5 4) .none (.str (r9 (stB 5 4)) 444) none 180
def o187(P:Params):Obj:=cO "__chain_b" "SequenceMatcher.__chain_b" 446 236 1 3 182 461
def y5(P:Params):Obj:=fO "__chain_b" "SequenceMatcher.__chain_b" (stB 5 5) .none .none none 187
def o189(P:Params):Obj:=⟨(.type "tuple"),none,(Data.seq #[(.int 0 464),.none,(.int 0 465),.none] 0),#[]⟩
def o195(P:Params):Obj:=cO "find_longest_match" "SequenceMatcher.find_longest_match" 466 260 5 3 190 488
def y4(P:Params):Obj:=fO "find_longest_match" "SequenceMatcher.find_longest_match" (stB 5 6) (.ref 189) (.str (r9 (stB 5 6)) 490) none 195
def o202(P:Params):Obj:=cO "get_matching_blocks" "SequenceMatcher.get_matching_blocks" 492 335 1 3 197 515
def y1(P:Params):Obj:=fO "get_matching_blocks" "SequenceMatcher.get_matching_blocks" (stB 5 7) .none (.str (r9 (stB 5 7)) 517) none 202
def o209(P:Params):Obj:=cO "get_opcodes" "SequenceMatcher.get_opcodes" 519 383 1 3 204 530
def yZ(P:Params):Obj:=fO "get_opcodes" "SequenceMatcher.get_opcodes" (stB 5 8) .none (.str (r9 (stB 5 8)) 532) none 209
def o211(P:Params):Obj:=⟨(.type "tuple"),none,(Data.seq #[(.int 3 534)] 0),#[]⟩
def o217(P:Params):Obj:=cO "get_grouped_opcodes" "SequenceMatcher.get_grouped_opcodes" 535 430 2 35 212 548
def rH(P:Params):Obj:=fO "get_grouped_opcodes" "SequenceMatcher.get_grouped_opcodes" (stB 5 9) (.ref 211) (.str (r9 (stB 5 9)) 550) none 217
def o241(P:Params):Obj:=⟨(.type "dict"),none,(Data.dict #[kE P "__module__" 396 (.str "cpy313.difflib" 194),kE P "__firstlineno__" 400 (.int 70 399),kE P "__doc__" 402 (.str docD 401),kE P "__init__" 417 (.ref 160),kE P "set_seqs" 427 (.ref 167),kE P "set_seq1" 436 (.ref 174),kE P "set_seq2" 445 (.ref 181),kE P "_SequenceMatcher__chain_b" 463 (.ref 188),kE P "find_longest_match" 491 (.ref 196),kE P "get_matching_blocks" 518 (.ref 203),kE P "get_opcodes" 533 (.ref 210),kE P "get_grouped_opcodes" 551 (.ref 218),kE P "ratio" 560 (.ref 225),kE P "quick_ratio" 567 (.ref 232),kE P "real_quick_ratio" 574 (.ref 239),kE P "__static_attributes__" 585 (.ref 240),kE P "__dict__" 587 (.ref 243),kE P "__weakref__" 589 (.ref 244)] 3),#[]⟩
def o242(P:Params):Obj:=⟨(.type "type"),none,(Data.cls {name:="SequenceMatcher",bases:=[(.type "object")],mro:=[(.ref 242),(.type "object")],ns:=241,qualname:="SequenceMatcher",hasDict:=true,slotNames:=[],subclasses:=[],abstract:=false,collection:=none,hasDel:=false}),#[none,none,some (.str "SequenceMatcher" 389),some (.str "SequenceMatcher" 397),some (.builtin "object.__new__"),some (.bool true)]⟩
def o252(P:Params):Obj:=cO "_law_lists" "_law_lists" 594 505 1 3 247 602
def o253(P:Params):Obj:=fOx (.str "law_dm0053_02" 592) "_law_lists" "_law_lists" (stA 7) .none .none none 252
def o259(P:Params):Obj:=cO "_law_parts" "_law_parts" 605 516 1 3 254 616
def o260(P:Params):Obj:=fOx (.str "law_dm0053_02" 592) "_law_parts" "_law_parts" (stA 8) .none .none none 259
def o266(P:Params):Obj:=cO "_law_cheapest" "_law_cheapest" 619 526 2 3 261 632
def o267(P:Params):Obj:=fOx (.str "law_dm0053_02" 592) "_law_cheapest" "_law_cheapest" (stA 9) .none .none none 266
def o273(P:Params):Obj:=cO "_law_shown" "_law_shown" 635 536 5 3 268 650
def o274(P:Params):Obj:=fOx (.str "law_dm0053_02" 592) "_law_shown" "_law_shown" (stA 10) .none .none none 273
def o278(P:Params):Obj:=cO0 "law" "law" 653 549 1 3 275 656
def yY(P:Params):Obj:=fOx (.str "law_dm0053_02" 592) "law" "law" (stA 11) .none .none none 278
def KL(P:Params):Frag:=[(0,boot_o_0 P),(1,boot_o_1 P),(2,boot_o_2 P),(4,boot_o_4 P),(5,boot_o_5 P),(6,boot_o_6 P),(7,boot_o_7 P),(8,boot_o_8 P),(9,boot_o_9 P),(10,boot_o_10 P),(3,o3 P),(81,o81 P),(82,o82 P),(88,o88 P),(89,o89 P),(91,o91 P),(134,o134 P),(135,o135 P),(136,o136 P),(153,o153 P),(159,o159 P),(160,wK P),(166,o166 P),(167,y8 P),(173,o173 P),(174,y7 P),(180,o180 P),(181,y6 P),(187,o187 P),(188,y5 P),(189,o189 P),(195,o195 P),(196,y4 P),(202,o202 P),(203,y1 P),(209,o209 P),(210,yZ P),(211,o211 P),(217,o217 P),(218,rH P),(241,o241 P),(242,o242 P),(252,o252 P),(253,o253 P),(259,o259 P),(260,o260 P),(266,o266 P),(267,o267 P),(273,o273 P),(274,o274 P),(278,o278 P),(279,yY P)]
def endN:Nat:=280
def endK:Nat:=659
def finT(w:World):BT:=(uA pR w).elim .nil λx=>x.2.2.1
def finP(w:World):Pos:=(uA pR w).elim default λx=>x.2.1
theorem finEq(w:World):uA pR w=some (.ok (.done (.ret .none)),finP w,finT w,endN,endK):=by rfl'
theorem gets(w:World):((KL w.params).map λx=>((finT w).get x.1).bind alive)=(KL w.params).map λx=>some x.2:=by rfl'
end
section
theorem sT{R:WRecords}{cl:Str->Option Addr}{h:Heap}{v:Value}{i:Int}{as:List Addr}(r:ReadsW R cl h v (.int i) as):∃ t,v= .int i t:=by
 cases r;exact⟨_,rfl⟩
theorem kI{R:WRecords}{cl:Str->Option Addr}{h:Heap}{vs:List Value}{d:WData}{ds:List WData}{as:List Addr}(r:ReadsAllW R cl h vs (d::ds) as):∃ v vs' bs cs,vs=v::vs'/\as=bs++cs/\ReadsW R cl h v d bs/\ReadsAllW R cl h vs' ds cs:=by
 cases r with |cons a b=>exact⟨_,_,_,_,rfl,rfl,a,b⟩
theorem lV{R:WRecords}{cl:Str->Option Addr}{h:Heap}{vs:List Value}{as:List Addr}(r:ReadsAllW R cl h vs [] as):vs= []:=by
 cases r;rfl
theorem rD{R:WRecords}{cl:Str->Option Addr}{h:Heap}{v:Value}{xs:List WData}{as:List Addr}(r:ReadsW R cl h v (.list xs) as):∃ a o arr n bs,v= .ref a/\a∈as/\h.get? a=some o/\o.cls= .type "list" /\o.data= .seq arr n/\ReadsAllW R cl h arr.toList xs bs:=by
 cases r with |list h1 h2 h3 h4=>exact⟨_,_,_,_,_,rfl,mem_cons_self,h1,h2,h3,h4⟩
theorem mY{R:WRecords}{cl:Str->Option Addr}{h:Heap}:∀ {ds:List WData}{vs:List Value}{as:List Addr},ReadsAllW R cl h vs ds as->WShape.hasItems R ds .int=true-> ∃ (ns:List Int) (ts:List Tok),ts.length=ns.length/\vs=((ns.zip ts).map λx=>Value.int x.1 x.2)/\ds.length=ns.length:=by
 intro ds
 induction ds with
 |nil=>
  intro vs as r _
  exact⟨[],[],rfl,lV r,rfl⟩
 |cons d ds ih=>
  intro vs as r hi
  have h:=and_eq_true_iff.mp (show(WShape.has R d .int && WShape.hasItems R ds .int)=true from hi)
  refine xE (hasW_int h.1) λi z130=>?_;subst z130
  refine lM (kI r) λv vs' bs cs z131 _ r1 r2=>?_;subst z131
  refine xE (sT r1) λt z132=>?_;subst z132
  refine bL (ih r2 h.2) λns ts hl e hd=>?_
  exact⟨i::ns,t::ts,congrArg Nat.succ hl,congrArg (Value.int i t::·) e,congrArg Nat.succ hd⟩
theorem tY{p:Program}(e:opening p=plainProg p.main.scope.names)(f:∀ s,fenceModules? p s=some s)(w:World):∃ s,AfterRun (opening p) w s/\s.heap=boot_heap w.params/\s.gens= #[]/\s.drawn=boot_drawn/\s.toks=boot_toks:=by
 refine xEA (map_eq_some_iff.mp (boot_plain w p.main.scope.names)) λs hs hv=>?_
 rw[<-e]at hs
 rw[<-table_eq_tree]at hs
 have A:=AfterImport.of_importEnds hs
 simp only[Prod.mk.injEq]at hv
 exact⟨s,A,hv.1,hv.2.1,hv.2.2.1,hv.2.2.2⟩
theorem pre63{l:OpenLaw}{xs:List WData}(hbd:l.bound=none)(hmost:l.most=some 63)(h:(OpenLaw.pre l).holds [] {args:=[.list xs]}=true):xs.length<=63:=by
 have e:(OpenLaw.pre l).holds [] {args:=[.list xs]}= !decide ((63:Int)<(xs.length:Int)):=by
  unfold OpenLaw.pre
  rw[hbd,hmost]
  unfold WTm.holds
  dsimp only
  rw[w_and (w_not (w_lt w_lit (w_len_list (w_arg rfl)))) w_lit]
  cases decide ((63:Int)<(xs.length:Int))<;>rfl
 rw[e]at h
 by_cases q:xs.length<=63
 ·exact q
 ·rw[show decide ((63:Int)<(xs.length:Int))=true from decide_eq_true (A62 q)]at h;cases h
theorem wC{H:Heap}(stat:∃ o n,H.get? cStatics=some o/\o.data= .dict #[] n)(key:Str):staticOf H key=none:=by
 refine gZ stat λo n h1 h2=>?_
 unfold staticOf
 rw[h1]
 dsimp only
 rw[h2]
 rfl
theorem wF{G H:Heap}(old:∀ b o,G.get? b=some o->b≠mainNs->H.get? b=some o)(hstat:∀ key,staticOf H key=none)(key:Str):staticOf G key=none:=by
 cases hs:staticOf G key with
 |none=>rfl
 |some v=>
  have:=hstat key
  unfold staticOf at hs this
  cases hc:G.get? cStatics with
  |none=>rw[hc]at hs;cases hs
  |some o=>
   rw[old _ _ hc (by decide)]at this
   rw[hc]at hs
   rw[this]at hs;cases hs
theorem aCb{G H:Heap}(old:∀ b o,G.get? b=some o->b≠mainNs->H.get? b=some o)(hx:G.isNs builtinsNs=true)(x:Str):builtinOf H x=builtinOf G x:=by
 unfold Heap.isNs at hx
 cases hc:G.get? builtinsNs with
 |none=>rw[hc]at hx;cases hx
 |some o=>
  unfold builtinOf
  rw[old _ _ hc (by decide),hc]
theorem xF{p:Program}{w:World}{H:Heap}{k:Nat}{os:OsState}(hz:Shared.asleep ⟨boot_heap w.params,#[],boot_drawn,boot_toks,os⟩)(run:Sem.wp (model p w) Γ0 (topStub p).cur (λfin _ s'=>fin= .done (.ret .none)/\s'=⟨H,#[],boot_drawn,k,os⟩) (λ_ _ _=>False) default ⟨boot_heap w.params,#[],boot_drawn,boot_toks,os⟩)(life:H.life=(boot_heap w.params).life) (old:∀ b o,(boot_heap w.params).get? b=some o->b≠mainNs->H.get? b=some o) (stat:∃ o n,H.get? cStatics=some o/\o.data= .dict #[] n)(isn:H.isNs mainGlobals=true) (nb:namesBound p H=true) (lk:laidKept (boot_heap w.params) H=true) (ib:(boot_heap w.params).isNs builtinsNs=true) (bv:(boot_heap w.params).bltView=bltViewBooted) (bm:builtinsGlobalAsBooted H):TopRan p w ⟨boot_heap w.params,#[],boot_drawn,boot_toks,os⟩ ⟨H,#[],boot_drawn,k,os⟩:=by
 have hs:=wC stat
 refine⟨qY hz rfl run,life,rfl,λb o hb' hn=>old b o hb' λq=>hn (.inl q),λkey v hv=>?_,λkey=>.inl ((hs key).trans (wF old hs key).symm),Pin.keysAreStrs_of isn,λx hx=>?_,bm,λg hg=>?_,names_of_bound nb,laid_of_kept lk⟩
 ·rw[hs]at hv;cases hv
 ·exact(aCb old ib x).trans ((Pin.builtinOf_eq ib x).trans (Heap.of_bltView ib bv x hx))
 ·exact absurd hg (by simp)
def xX(l:OpenLaw)(vs:List Value):Sem Fin:=do match<-nsGet mainNs l.name with
   |some f=>do ret (<-PySem.call f vs)
   |none=>unsupported "claim.caller:no-such-global"
theorem tU{l:OpenLaw}{w:World}{H:Heap}{k:Nat}{fa:Addr}{os:OsState}(hbd:l.bound=none)(hmost:l.most=some 63)(isn:H.isNs mainGlobals=true)(hfa:H.nsMap mainGlobals l.name=some (.ref fa))(walk:∀ (s₁:Shared) (a:Addr) (ns:List Int) (ts:List Tok),(∀ b o,H.get? b=some o->s₁.heap.get? b=some o)->s₁.gens= #[]-> ts.length=ns.length->ns.length<=63->s₁.heap.IsList a ((ns.zip ts).map λx=>Value.int x.1 x.2).toArray->H.get? a=none-> wpAny (model l.prog w) callerA (call (.ref fa) [.ref a]) (λv s'=>v= .bool true/\(∀ b o,s₁.heap.get? b=some o->s'.heap.get? b=some o)/\s'.os=s₁.os/\AllBare s'.gens) (λ_ _=>False) s₁)(args:List WData) (hpre:l.row.toRowW.claim.pre args=true) (hlay:WData.layableAll args=true) (ord:List DictEntry->List DictEntry) (hord:∀ l,(ord l).Perm l):∃ vs s₁,layAllW [] (classAt H) w.params ord args ⟨H,#[],boot_drawn,k,os⟩=some (vs,s₁)/\ wpAny (model l.prog w) callerA (xX l vs) (λfin s'=>∃ f,fin= .done f/\(l.row.toRowW.claim.Ends ⟨H,#[],boot_drawn,k,os⟩ args vs s₁ (.ok f) s'/\s'.os=os/\AllBare s'.gens)) (λe s'=>l.row.toRowW.claim.Ends ⟨H,#[],boot_drawn,k,os⟩ args vs s₁ (.error e) s'/\s'.os=os/\AllBare s'.gens) s₁:=by
 have hp:=and_eq_true_iff.mp hpre
 refine bL (hasAllW_cons (e:=.list .int) (es:=[]) hp.1) λd ds z133 h1 h2=>?_;subst z133
 obtain rfl:=hasAllW_nil h2
 refine xEA (hasW_list h1) λxs z134 hi=>?_;subst z134
 refine xE (Option.isSome_iff_exists.mp (layAllW_isSome (R:=[]) (cl:=classAt H) (P:=w.params) (ord:=ord) (λc hc=>by cases hc) [.list xs] l.row.toRowW.args ⟨H,#[],boot_drawn,k,os⟩ hp.1)) λz135 hlaid=>?_;obtain⟨vs,s₁⟩:=z135
 have keeps:=layAllW_keeps _ _ _ hlaid
 have hal:=layAllW_rest _ _ _ hlaid
 refine cX (reads_layAllW hord _ _ _ hlaid hlay s₁.heap (λ_ _ e=>e)) λas hrd hin hold=>?_
 have L:Laid [] w ⟨H,#[],boot_drawn,k,os⟩ s₁ [.list xs] vs as:=⟨⟨ord,hord,hlaid⟩,hrd,hin,hold,keeps,hal.1,hal.2.2.1⟩
 refine⟨vs,s₁,hlaid,?_⟩
 have hlen:=hp.2
 refine lM (kI hrd) λv vs' bs cs evs eas r1 r2=>?_
 refine qV (rD r1) λa o vs2 n as2 ev ha ho hc hdt hr=>?_
 refine bL (mY hr hi) λns ts hl hv hxs=>?_
 have ev2:vs= [.ref a]:=evs.trans (by rw[ev,lV r2])
 have ha:a∈as:=eas▸List.mem_append_left _ ha
 clear hold eas r1 r2 evs ev
 rw[ev2]
 rw[ev2]at L
 have h63:ns.length<=63:=by
  rw[<-hxs]
  exact pre63 hbd hmost hlen
 have hA:(H).get? a=none:=by
  have hge:=(hin.2.2 a ha).1
  cases hq:(H).get? a with
  |none=>rfl
  |some o'=>exact absurd (Heap.lt_size hq) (Nat.not_lt.mpr hge)
 have hlist:s₁.heap.IsList a ((ns.zip ts).map λx=>Value.int x.1 x.2).toArray:=⟨o,ho,hc,n,by rw[hdt,<-hv]⟩
 have W:=walk s₁ a ns ts keeps hal.1 hl h63 hlist hA
 have hnsg:s₁.heap.Ns mainGlobals ((H).nsMap mainGlobals):=by
  have:=Heap.Ns.of_isNs isn
  refine gS this λo' es n' h1 h2=>?_
  exact⟨o',es,n',keeps _ _ h1,h2⟩
 unfold xX
 refine zzB (wpAny_nsGet hnsg ?_)
 rw[hfa]
 refine zzB (wpAny_mono W (λv s' g=>?_) λ_ _ x=>x.elim)
 refine xAAA g λz136 gk gos gg=>?_;clear g;subst z136
 refine zzP ⟨_,rfl,?_⟩
 have G:GoodWG l.row.toRowW.claim (classAt (H)) (ExcName.means (H)) [.list xs] s₁ (.ok (.ret (.bool true))) s':=⟨.inl ⟨.bool true,.bool true,[],rfl,λ_=>rfl,.bool true,by rfl',λ_=>⟨.nil,λ_ h=>nomatch h⟩⟩,.of_keep gk,gos,gg⟩
 have z:=GoodWG.laid (c:=l.row.toRowW.claim) (s₀:=⟨H,#[],boot_drawn,k,os⟩) rfl rfl (ident_freeW rfl rfl rfl) L G
 exact⟨z.1,z.2.1,z.2.2⟩
theorem tG{l:OpenLaw}{H₁:World->Heap}{k:Nat}{fa:Addr}(hwr:l.writes=false)(hbd:l.bound=none)(hmost:l.most=some 63)(said:l.row.wellSaid=true) (prom:l.row.toRowW.promised) (hb:l.prog.bare) (o1:opensWell l.prog=true)(e1:opening l.prog=plainProg l.prog.main.scope.names) (f1:∀ s,fenceModules? l.prog s=some s)(run:∀ w os,Sem.wp (model l.prog w) Γ0 (topStub l.prog).cur (λfin _ s'=>fin= .done (.ret .none)/\s'=⟨H₁ w,#[],boot_drawn,k,os⟩) (λ_ _ _=>False) default ⟨boot_heap w.params,#[],boot_drawn,boot_toks,os⟩)(life:∀ w,(H₁ w).life=(boot_heap w.params).life)(old:∀ w b o,(boot_heap w.params).get? b=some o->b≠mainNs->(H₁ w).get? b=some o)(stat:∀ w,∃ o n,(H₁ w).get? cStatics=some o/\o.data= .dict #[] n)(isn:∀ w,(H₁ w).isNs mainGlobals=true) (nb:∀ w,namesBound l.prog (H₁ w)=true) (lk:∀ w,laidKept (boot_heap w.params) (H₁ w)=true)(ib:∀ w:World,(boot_heap w.params).isNs builtinsNs=true) (bv:∀ w:World,(boot_heap w.params).bltView=bltViewBooted)(bm:∀ w,builtinsGlobalAsBooted (H₁ w))(pin:∀ w,isTheDefsW l.prog (H₁ w) l.name) (hfa:∀ w,(H₁ w).nsMap mainGlobals l.name=some (.ref fa))(walk:∀ (w:World) (s₁:Shared) (a:Addr) (ns:List Int) (ts:List Tok),(∀ b o,(H₁ w).get? b=some o->s₁.heap.get? b=some o)->s₁.gens= #[]-> ts.length=ns.length->ns.length<=63->s₁.heap.IsList a ((ns.zip ts).map λx=>Value.int x.1 x.2).toArray->(H₁ w).get? a=none-> wpAny (model l.prog w) callerA (call (.ref fa) [.ref a]) (λv s'=>v= .bool true/\(∀ b o,s₁.heap.get? b=some o->s'.heap.get? b=some o)/\s'.os=s₁.os/\AllBare s'.gens) (λ_ _=>False) s₁):l.row.Holds:=by
 refine⟨said,prom,⟨hb,o1,rfl⟩,?_,λw=>?_⟩
 ·refine xEA prom λargs h1 h2=>?_
  exact⟨args,h1,(and_eq_true_iff.mp h2).1⟩
 refine w9 (tY e1 f1 w) λs₀ hA hh hg hd ht=>?_
 refine⟨⟨s₀,hA⟩,λs' hs'=>?_⟩
 obtain rfl:s'=s₀:=AfterImport.unique hs' hA
 obtain⟨heap,gens,drawn,toks,os⟩:=s'
 dsimp only at hh hg hd ht
 subst hh hg hd ht
 have hz:Shared.asleep ⟨boot_heap w.params,#[],boot_drawn,boot_toks,os⟩:=AfterImport.life hA
 have hT:=xF (p:=l.prog) hz (run w os) (life w) (old w) (stat w) (isn w) (nb w) (lk w) (ib w) (bv w) (bm w)
 refine⟨_,f1 _,rfl,⟨H₁ w,#[],boot_drawn,k,os⟩,hT,λn hn=>?_,λx hx=>(nomatch (show x∈([]:WRecords) from hx)),λx hx=>(nomatch (show x∈([]:WRecords) from hx)),?_⟩
 ·obtain rfl:n=l.name:=by simpa [OpenLaw.row] using hn
  exact pin w
 have hz₁:Shared.asleep ⟨H₁ w,#[],boot_drawn,k,os⟩:=Shared.asleep_of_life (life w) hz
 refine ClaimW.callFrom_of_specG (c:=l.row.toRowW.claim) (tree:=xX l) hz₁ rfl λargs hpre hlay ord hord=>?_
 refine gZ (tU (k:=k) (os:=os) hbd hmost (isn w) (hfa w) (walk w) args hpre hlay ord hord) λvs s₁ q1 q2=>?_
 have no: ¬l.row.writes=true:=λq=>by rw[show l.row.writes=l.writes from rfl,hwr]at q;cases q
 exact⟨vs,s₁,q1,wpAny_mono q2 (λfin s' ⟨f,e,g1,g2,g3⟩=>⟨f,e,g1,g2,g3,λq=>absurd q no⟩) λe s' ⟨g1,g2,g3⟩=>⟨g1,g2,g3,λq=>absurd q no⟩⟩
end
section
def H1(w:World):Heap:=absHeap (finT w) endN (boot_heap w.params).life
theorem bt0_eq(P:Params):absHeap (bt0 P) 11 (boot_heap P).life=boot_heap P:=by rfl'
theorem zN(P:Params):((KL P).all λx=>blt x.1 endN)=true:=by rfl'
theorem t6(w:World):(KL w.params).In (H1 w):=by
 have key:∀ (K:Frag) (T:BT) (n:Nat) (life:Life),(K.map λx=>(T.get x.1).bind alive)=K.map (λx=>some x.2)->(K.all λx=>blt x.1 n)=true->K.In (absHeap T n life):=by
  intro K T n life
  induction K with
  |nil=>intro _ _ a o e;cases e
  |cons p r ih=>
   obtain⟨b,x⟩:=p
   intro h1 h2 a o e
   simp only[map_cons,List.cons.injEq]at h1
   simp only[List.all_cons,Bool.and_eq_true]at h2
   simp only[List.lookup]at e
   split at e
   ·rename_i q
    cases e
    obtain rfl:=beq_iff_eq.mp q
    have hlt:=le_of_ble_eq_true h2.1
    refine xEA (bind_eq_some_iff.mp h1.1) λo' g1 g2=>?_
    exact(abs_get hlt g1).trans g2
   ·exact ih h1.2 h2.2 a o e
 exact key _ _ _ _ (gets w) (zN w.params)
theorem aDc(w:World)(os:OsState):Sem.wp (model pw w) Γ0 (topStub pw).cur (λfin _ s'=>fin= .done (.ret .none)/\s'=⟨H1 w,#[],boot_drawn,endK,os⟩) (λ_ _ _=>False) default ⟨boot_heap w.params,#[],boot_drawn,boot_toks,os⟩:=by
 have h:=finEq w
 unfold uA at h
 rw[<-den_eq,<-p_eq]at h
 have e:ab (boot_heap w.params).life #[] boot_drawn os (bt0 w.params) 11 boot_toks=⟨boot_heap w.params,#[],boot_drawn,boot_toks,os⟩:=by
  unfold ab;rw[bt0_eq]
 rw[<-e]
 have key:Ph (boot_heap w.params).life #[] boot_drawn os (λfin _ s'=>fin= .done (.ret .none)/\s'=⟨H1 w,#[],boot_drawn,endK,os⟩) (λ_ _ _=>False) (some ((Except.ok (PySem.Fin.done (Flow.ret Value.none)):Except Value PySem.Fin),finP w,finT w,endN,endK)):=⟨rfl,rfl⟩
 rw[<-h]at key
 exact aBl (model pw w) (boot_heap w.params).life #[] boot_drawn os (λhq=>tO (model pw w) (boot_heap w.params).life #[] boot_drawn os 3000 hq) _ key
theorem get3(w:World):(H1 w).get? 3=some (o3 w.params):=t6 w _ _ ⋯
end
section
theorem old1(w:World)(b:Addr)(o:Obj)(h:(boot_heap w.params).get? b=some o)(hn:b≠mainNs):(H1 w).get? b=some o:=by
 have hlt:b<11:=Heap.lt_size h
 have K:=t6 w
 match b,hlt,hn with
 |0,_,_=>
  have e:(boot_heap w.params).get? 0=some (boot_o_0 w.params):=by rfl'
  rw[e]at h;cases h;exact K _ _ ⋯
 |1,_,_=>
  have e:(boot_heap w.params).get? 1=some (boot_o_1 w.params):=by rfl'
  rw[e]at h;cases h;exact K _ _ ⋯
 |2,_,_=>
  have e:(boot_heap w.params).get? 2=some (boot_o_2 w.params):=by rfl'
  rw[e]at h;cases h;exact K _ _ ⋯
 |3,_,hn=>exact absurd rfl hn
 |4,_,_=>
  have e:(boot_heap w.params).get? 4=some (boot_o_4 w.params):=by rfl'
  rw[e]at h;cases h;exact K _ _ ⋯
 |5,_,_=>
  have e:(boot_heap w.params).get? 5=some (boot_o_5 w.params):=by rfl'
  rw[e]at h;cases h;exact K _ _ ⋯
 |6,_,_=>
  have e:(boot_heap w.params).get? 6=some (boot_o_6 w.params):=by rfl'
  rw[e]at h;cases h;exact K _ _ ⋯
 |7,_,_=>
  have e:(boot_heap w.params).get? 7=some (boot_o_7 w.params):=by rfl'
  rw[e]at h;cases h;exact K _ _ ⋯
 |8,_,_=>
  have e:(boot_heap w.params).get? 8=some (boot_o_8 w.params):=by rfl'
  rw[e]at h;cases h;exact K _ _ ⋯
 |9,_,_=>
  have e:(boot_heap w.params).get? 9=some (boot_o_9 w.params):=by rfl'
  rw[e]at h;cases h;exact K _ _ ⋯
 |10,_,_=>
  have e:(boot_heap w.params).get? 10=some (boot_o_10 w.params):=by rfl'
  rw[e]at h;cases h;exact K _ _ ⋯
 |b+11,hlt,_=>exact absurd hlt (Nat.not_lt.mpr (le_add_left 11 b))
theorem ns3(w:World)(x:Str):(H1 w).nsMap mainGlobals x=(match (o3 w.params).data with | .dict es _=>nsFind es x |_=>none):=by
 unfold Heap.nsMap mainGlobals;rw[get3];rfl
theorem isn1(w:World):(H1 w).isNs mainGlobals=true:=by
 unfold Heap.isNs mainGlobals;rw[get3];kernel_rfl
theorem keys3(w:World):(H1 w).nsKeys mainGlobals=(match (o3 w.params).data with
  | .dict es _=>es.toList.filterMap λe=>match e.key with | .str n _=>some n |_=>none
  |_=>[]):=by
 unfold Heap.nsKeys mainGlobals;rw[get3];rfl
theorem nb1(w:World):namesBound pw (H1 w)=true:=by
 unfold namesBound;rw[isn1,keys3];kernel_rfl
theorem lk1(w:World):laidKept (boot_heap w.params) (H1 w)=true:=by
 unfold laidKept;rw[isn1];simp only[ns3];kernel_rfl
theorem ib1(w:World):(boot_heap w.params).isNs builtinsNs=true:=by rfl'
theorem bv1(w:World):(boot_heap w.params).bltView=bltViewBooted:=by rfl'
theorem bm1(w:World):builtinsGlobalAsBooted (H1 w):=by
 refine⟨4,boot_o_4 w.params,?_,t6 w _ _ ⋯,by rfl',by rfl'⟩
 rw[Pin.globalOf_eq (isn1 w),ns3];kernel_rfl
def law:Str:=Str.ofString "law"
theorem fa1(w:World):(H1 w).nsMap mainGlobals law=some (.ref 279):=by rw[ns3];kernel_rfl
theorem pin1(w:World):isTheDefsW pw (H1 w) law:=by
 refine⟨279,yY w.params,_,_,_,_,(Pin.globalOf_eq (isn1 w) _).trans (fa1 w),t6 w _ _ ⋯,rfl,(by rfl':pw.theDef law=some (fPar (stA 11),cL (stA 11),fSco (stA 11))),rfl,rfl,rfl,rfl,rfl,rfl,rfl,rfl,?_⟩
 exact⟨.inl ⟨rfl,rfl⟩,[],rfl,.inl ⟨rfl,rfl⟩⟩
theorem said5:OpenLaw.wellSaid PySem.Challenge.rw_dm0053_02=true:=by rfl'
theorem head(walk:∀ (w:World) (s₁:Shared) (a:Addr) (ns:List Int) (ts:List Tok),(∀ b o,(H1 w).get? b=some o->s₁.heap.get? b=some o)->s₁.gens= #[]-> ts.length=ns.length->ns.length<=63->s₁.heap.IsList a ((ns.zip ts).map λx=>Value.int x.1 x.2).toArray->(H1 w).get? a=none-> wpAny (model pw w) callerA (call (.ref 279) [.ref a]) (λv s'=>v= .bool true/\(∀ b o,s₁.heap.get? b=some o->s'.heap.get? b=some o)/\s'.os=s₁.os/\AllBare s'.gens) (λ_ _=>False) s₁):PySem.Challenge.rw_dm0053_02.Holds:=by
 refine holds_law said5 λsaid=>?_
 exact tG (l:=PySem.Challenge.rw_dm0053_02) rfl rfl rfl said ⟨[.list []],by decide+kernel,by decide+kernel⟩ ⟨rfl,rfl,rfl,rfl,rfl,by decide+kernel⟩ (by decide+kernel) ⋯ (λs=>by rfl')
  aDc (λ_=>rfl) old1 (λw=>⟨boot_o_2 w.params,0,t6 w _ _ ⋯,by rfl'⟩) isn1 nb1 lk1 ib1 bv1 bm1 pin1 fa1 walk
end
section
def nth(b:List Stmt)(k:Nat):Stmt:=(b.drop k).headD (.Pass ⟨0,0,0,0⟩)
def e0:Expr:=.Constant .none 0 ⟨0,0,0,0⟩
def p0:Pos:=⟨0,0,0,0⟩
def forT:Stmt->Expr | .For t _ _ _ _=>t |_=>e0
def forI:Stmt->Expr | .For _ i _ _ _=>i |_=>e0
def forB:Stmt->List Stmt | .For _ _ b _ _=>b |_=>[]
def forP:Stmt->Pos | .For _ _ _ _ p=>p |_=>p0
def ifT:Stmt->Expr | .If t _ _ _=>t |_=>e0
def ifB:Stmt->List Stmt | .If _ b _ _=>b |_=>[]
def ifP:Stmt->Pos | .If _ _ _ p=>p |_=>p0
def exE:Stmt->Expr | .Expr e _=>e |_=>e0
def exP:Stmt->Pos | .Expr _ p=>p |_=>p0
def yiE:Expr->Expr | .Yield (some e) _=>e |_=>e0
def yiP:Expr->Pos | .Yield _ p=>p |_=>p0
def gshOf(fd:FuncData)(fa:Addr)(b:List Stmt)(k:Nat):GSh:=let f:=nth b k
 let i1:=nth (forB f) 0
 let i2:=nth b (k+1)
 {fd:=fd,fa:=fa,pre:=b.take k,target:=forT f,iter:=forI f,cond:=ifT i1,ye:=yiE (exE (nth (ifB i1) 1)),cond2:=ifT i2,ye2:=yiE (exE (nth (ifB i2) 0)),s1:=nth (ifB i1) 0,s3:=nth (forB f) 1,s2:=(ifB i1).drop 2,p1:=yiP (exE (nth (ifB i1) 1)),p2:=exP (nth (ifB i1) 1),p3:=yiP (exE (nth (ifB i2) 0)),p4:=exP (nth (ifB i2) 0),p5:=ifP i1,p6:=ifP i2,p7:=forP f}
theorem aAt(fd:FuncData):(gshOf fd 218 (cL (stB 5 9)) 7).body=cL (stB 5 9):=by rfl'
end
section
def aY(o:Obj):FuncData:=match o.data with | .func fd=>fd |_=> {name:="",qualname:="",params:=⟨[],[],none,[],[],none,[]⟩,body:=.stmts [],scope:=default,globals:=0,closure:=[],defaults:=.none,kwdefaults:=.none,doc:=.none,pyModule:=.none,annotations:=none,code:=.none,closureTuple:=.none,builtins:=0}
noncomputable abbrev gsh(P:Params):GSh:=gshOf (aY (rH P)) 218 (cL (stB 5 9)) 7
structure XX(C:Cx) where
 w:World
 base:∀ b o,(H1 w).get? b=some o->C.base.heap.get? b=some o
 gr:∀ ρ s l gn,C.GR ρ s l gn=eJ (gsh w.params) ρ s l gn
variable {C:Cx}
theorem XX.get(X:XX C){b:Addr}{o:Obj}(h:(KL X.w.params).lookup b=some o):C.base.heap.get? b=some o:=X.base _ _ (t6 X.w _ _ h)
theorem XX.inK(X:XX C):(KL X.w.params).In C.base.heap:=λ_ _ h=>X.get h
theorem XX.sys(X:XX C):∃ o,C.base.heap.get? sysModules=some o:=⟨_,X.get (Option.eq_some_of_isSome (by rfl':((KL X.w.params).lookup sysModules).isSome=true))⟩
theorem uO{h:Heap}{a:Addr}{o:Obj}(e:h.get? a=some o)(hn:(match o.data with | .dict es _=>es.all (λx=>match x.key with | .str _ _=>true |_=>false) |_=>false)=true):h.Ns a (λx=>match o.data with | .dict es _=>nsFind es x |_=>none):=by
 have q:h.isNs a=true:=by unfold Heap.isNs;rw[e];exact hn
 have z:=Heap.Ns.of_isNs q
 have y:h.nsMap a=(λx=>match o.data with | .dict es _=>nsFind es x |_=>none):=by funext x;unfold Heap.nsMap;rw[e];rfl
 rw[<-y];exact z
theorem XX.smc(X:XX C):SMC C:=by
 refine⟨⟨_,_,_,_,_,_,_,_,_,_,_,_,X.get (o:=o242 X.w.params) ⋯⟩,⟨_,uO (X.get (o:=o241 X.w.params) ⋯) ⋯,?_,by rfl',by rfl',by rfl',?_⟩,?_⟩
 ·intro x hx
  simp only[cS,mem_cons,not_mem_nil,or_false]at hx
  rcases hx with rfl |rfl |rfl |rfl |rfl |rfl |rfl |rfl |rfl |rfl<;>kernel_rfl
 ·intro p hp
  simp only[eA,mem_cons,not_mem_nil,or_false]at hp
  rcases hp with rfl |rfl |rfl |rfl |rfl |rfl |rfl |rfl |rfl<;>kernel_rfl
 ·intro p hp
  simp only[eA,mem_cons,not_mem_nil,or_false]at hp
  rcases hp with rfl |rfl |rfl |rfl |rfl |rfl |rfl |rfl |rfl
  ·exact⟨wK X.w.params,X.get ⋯,rfl⟩
  ·exact⟨y8 X.w.params,X.get ⋯,rfl⟩
  ·exact⟨y7 X.w.params,X.get ⋯,rfl⟩
  ·exact⟨y6 X.w.params,X.get ⋯,rfl⟩
  ·exact⟨y5 X.w.params,X.get ⋯,rfl⟩
  ·exact⟨y4 X.w.params,X.get ⋯,rfl⟩
  ·exact⟨y1 X.w.params,X.get ⋯,rfl⟩
  ·exact⟨yZ X.w.params,X.get ⋯,rfl⟩
  ·exact⟨rH X.w.params,X.get ⋯,rfl⟩
theorem XX.kc(X:XX C):KCx C (KL X.w.params) where
 mem:=X.inK
 makes:=by rfl'
 init:=by rfl'
 initT:=by rfl'
 callS:=by rfl'
 callM:=by rfl'
 typM:=by rfl'
 clsM:=⟨_,_,_,_,(by rfl':(KL X.w.params).lookup aE=some (o135 X.w.params)),by rfl',by rfl',by rfl',by rfl',by rfl',by rfl',by rfl'⟩
 clsS:=⟨_,_,_,_,(by rfl':(KL X.w.params).lookup dJ=some (o242 X.w.params))⟩
 readsM:=by rfl'
 newM:=by rfl'
 makeM:=by rfl'
 smM:=by rfl'
 cmM:=⟨Value.bool false,by rfl'⟩
 initM:=by rfl'
 newT:=by rfl'
theorem XX.km(X:XX C):KMx C (KL X.w.params) where
 toK:=X.kc
 bases:=⟨_,_,_,_,(by rfl':(KL X.w.params).lookup aE=some (o135 X.w.params)),by rfl'⟩
 iter:=by rfl'
 len:=by rfl'
 lt:=by rfl'
 tup:=by rfl'
def nmL(env:Env)(x:Str):Bool:=(match env.kindOf x with |some .local=>true |some .cell=>true |some .free=>true |_=>false) && !(x==("__debug__" :Str)) && !(x==("__classdict__" :Str))
theorem s6{env:Env}{x:Str}(h:nmL env x=true):(env.kindOf x=some .local\/env.kindOf x=some .cell\/env.kindOf x=some .free)/\(x==("__debug__" :Str))=false/\(x==("__classdict__" :Str))=false:=by
 unfold nmL at h
 have h1:=and_eq_true_iff.mp h
 have h2:=and_eq_true_iff.mp h1.1
 refine⟨?_,Bool.not_eq_true' _ |>.mp h2.2,Bool.not_eq_true' _ |>.mp h1.2⟩
 have h3:=h2.1
 revert h3
 cases env.kindOf x with
 |none=>intro h;cases h
 |some k=>cases k<;>intro h<;>first |exact .inl rfl |exact .inr (.inl rfl) |exact .inr (.inr rfl) |cases h
theorem EV.nm{r:Nat}{env:Env}{x:Str}{pos:Pos}(h:nmL env x=true):EV C r env (.Name x pos) (eN x):=EV.name (s6 h).1 (s6 h).2.1 (s6 h).2.2
def nmB(env:Env)(x:Str):Bool:=match env.kindOf x with |some .local=>true |some .cell=>true |_=>false
theorem nms_ok{env:Env}{l:List Str}(h:l.all (nmB env)=true)(x:Str)(hx:x∈l):env.kindOf x=some .local\/env.kindOf x=some .cell:=by
 have h3:=all_eq_true.mp h x hx
 unfold nmB at h3
 revert h3
 cases env.kindOf x with
 |none=>intro h;cases h
 |some k=>cases k<;>intro h<;>first |exact .inl rfl |exact .inr rfl |cases h
def nmD(ns:List (Str×NameKind))(x:Str):Bool:=match ns.lookup x with |some .local=>true |some .cell=>true |_=>false
theorem cV{ns:List (Str×NameKind)}{l:List Str}(h:l.all (nmD ns)=true)(x:Str)(hx:x∈l):ns.lookup x=some .local\/ns.lookup x=some .cell:=by
 have h3:=all_eq_true.mp h x hx
 unfold nmD at h3
 revert h3
 cases ns.lookup x with
 |none=>intro h;cases h
 |some k=>cases k<;>intro h<;>first |exact .inl rfl |exact .inr rfl |cases h
theorem zA{ns:List (Str×NameKind)}{l:List Str}(h:l.all (λx=>ns.lookup x==some .local)=true)(x:Str)(hx:x∈l):ns.lookup x=some .local:=eq_of_beq (all_eq_true.mp h x hx)
theorem nofree{l:List (Str×NameKind)}(h:(l.all λx=>match x.2 with | .free=>false |_=>true)=true)(x:Str):l.lookup x≠some .free:=by
 intro e
 have:=all_eq_true.mp h _ (mem_of_lookup e)
 exact Bool.false_ne_true this
theorem XX.def_(X:XX C){a c:Addr}{o oc:Obj}{body:List Stmt}{vs:Array Value}{t:Tok}(h1:(KL X.w.params).lookup a=some o)(h2:(KL X.w.params).lookup c=some oc)(e1:o.data= .func (aY o))(e2:(aY o).code= .ref c)(e3:oc.data= .fields vs)(e4:vs[1]? =some (.str (aY o).qualname t))(e5:(aY o).body= .stmts body) (e6:(aY o).closure= []) (e7:(aY o).globals=mainGlobals) (e8:(aY o).builtins=builtinsNs) (e9:(aY o).scope.kind= .function) (ea:(aY o).scope.isCoroutine=false) (eb:((aY o).scope.names.all λx=>match x.2 with | .free=>false |_=>true)=true):Def C a (aY o) body:=⟨⟨_,X.get h1,e1⟩,⟨c,_,_,_,e2,X.get h2,e3,e4⟩,e5,e6,e7,e8,e9,ea,nofree eb⟩
def alln(P:List Value->Prop)(n:Nat):List Value->Prop:=n.rec P λ_ ih l=>∀ a,ih (l++[a])
theorem aEs{P:List Value->Prop}{n:Nat}:∀ {l us:List Value},us.length=n->alln P n l->P (l++us):=by
 induction n with
 |zero=>intro l us h p;cases List.eq_nil_of_length_eq_zero h;rw[append_nil];exact p
 |succ n ih=>
  intro l us h p
  cases us with
  |nil=>cases h
  |cons a us=>rw[List.append_cons];exact ih (Nat.succ.inj h) (p a)
theorem XX.bnd(X:XX C){fd:FuncData}{names:List Str}{dflt:List Value}(n:Nat)(e:names.length=n+dflt.length)(h:alln (λus=>∀ S,peek (KL X.w.params) S (bindArgs fd ⟨us,[]⟩)=some (names.zip (us++dflt))) n []):Binds C fd names dflt:=λs us hk hl M A E Q q=>
 (Looks.of_peek (M:=M) (X.kc.mem.keeps hk) (aEs (l:=[]) (Nat.add_right_cancel (length_append.symm.trans (hl.trans e))) h _)).here q
end
section
variable {C:Cx}
theorem XX.ns3(X:XX C):C.base.heap.Ns mainGlobals (λx=>match (o3 X.w.params).data with | .dict es _=>nsFind es x |_=>none):=uO (X.get (o:=o3 X.w.params) ⋯) ⋯
theorem XX.ns0(X:XX C):C.base.heap.Ns builtinsNs (λx=>match (boot_o_0 X.w.params).data with | .dict es _=>nsFind es x |_=>none):=uO (X.get (o:=boot_o_0 X.w.params) ⋯) ⋯
theorem XX.g_Match(X:XX C):Glo C "Match" (.ref aE):=⟨_,X.ns3,.inl ⋯⟩
theorem XX.g_SequenceMatcher(X:XX C):Glo C "SequenceMatcher" (.ref dJ):=⟨_,X.ns3,.inl ⋯⟩
theorem XX.g__law_lists(X:XX C):Glo C "_law_lists" (.ref 253):=⟨_,X.ns3,.inl ⋯⟩
theorem XX.g__law_parts(X:XX C):Glo C "_law_parts" (.ref 260):=⟨_,X.ns3,.inl ⋯⟩
theorem XX.g__law_cheapest(X:XX C):Glo C "_law_cheapest" (.ref 267):=⟨_,X.ns3,.inl ⋯⟩
theorem XX.g__law_shown(X:XX C):Glo C "_law_shown" (.ref 274):=⟨_,X.ns3,.inl ⋯⟩
theorem XX.g_list(X:XX C):Glo C "list" (.type "list"):=⟨_,X.ns3,.inr ⟨by rfl',_,X.ns0,by rfl'⟩⟩
theorem XX.g_map(X:XX C):Glo C "map" (.type "map"):=⟨_,X.ns3,.inr ⟨by rfl',_,X.ns0,by rfl'⟩⟩
theorem XX.g_set(X:XX C):Glo C "set" (.type "set"):=⟨_,X.ns3,.inr ⟨by rfl',_,X.ns0,by rfl'⟩⟩
theorem XX.g_range(X:XX C):Glo C "range" (.type "range"):=⟨_,X.ns3,.inr ⟨by rfl',_,X.ns0,by rfl'⟩⟩
theorem XX.g_enumerate(X:XX C):Glo C "enumerate" (.type "enumerate"):=⟨_,X.ns3,.inr ⟨by rfl',_,X.ns0,by rfl'⟩⟩
theorem XX.g_tuple(X:XX C):Glo C "tuple" (.type "tuple"):=⟨_,X.ns3,.inr ⟨by rfl',_,X.ns0,by rfl'⟩⟩
theorem XX.g_len(X:XX C):Glo C "len" (.builtin "len"):=⟨_,X.ns3,.inr ⟨by rfl',_,X.ns0,by rfl'⟩⟩
theorem XX.g_max(X:XX C):Glo C "max" (.builtin "max"):=⟨_,X.ns3,.inr ⟨by rfl',_,X.ns0,by rfl'⟩⟩
theorem XX.g_min(X:XX C):Glo C "min" (.builtin "min"):=⟨_,X.ns3,.inr ⟨by rfl',_,X.ns0,by rfl'⟩⟩
theorem XX.g_sum(X:XX C):Glo C "sum" (.builtin "sum"):=⟨_,X.ns3,.inr ⟨by rfl',_,X.ns0,by rfl'⟩⟩
theorem XX.d_new(X:XX C):Def C 82 (aY (o82 X.w.params)) (cL (stB 3 4)):=X.def_ (c:=81) (oc:=o81 X.w.params) ⋯ ⋯ rfl rfl rfl rfl rfl rfl rfl rfl ⋯ ⋯ ⋯
theorem XX.b_new(X:XX C):Binds C (aY (o82 X.w.params)) ["_cls","a","b","size"] []:=X.bnd 4 rfl λ_ _ _ _ _=>by rfl'
theorem XX.d_make(X:XX C):Def C 89 (aY (o89 X.w.params)) (cL (stB 3 5)):=X.def_ (c:=88) (oc:=o88 X.w.params) ⋯ ⋯ rfl rfl rfl rfl rfl rfl rfl rfl ⋯ ⋯ ⋯
theorem XX.b_make(X:XX C):Binds C (aY (o89 X.w.params)) ["cls","iterable"] []:=X.bnd 2 rfl λ_ _ _=>by rfl'
theorem XX.d_init(X:XX C):Def C 160 (aY (wK X.w.params)) (cL (stB 5 1)):=X.def_ (c:=159) (oc:=o159 X.w.params) ⋯ ⋯ rfl rfl rfl rfl rfl rfl rfl rfl ⋯ ⋯ ⋯
theorem XX.b_init(X:XX C):Binds C (aY (wK X.w.params)) ["self","isjunk","a","b","autojunk"] []:=X.bnd 5 rfl λ_ _ _ _ _ _=>by rfl'
theorem XX.b_init1(X:XX C):Binds C (aY (wK X.w.params)) ["self","isjunk","a","b","autojunk"] [Value.bool true]:=X.bnd 4 rfl λ_ _ _ _ _=>by rfl'
theorem XX.d_set_seqs(X:XX C):Def C 167 (aY (y8 X.w.params)) (cL (stB 5 2)):=X.def_ (c:=166) (oc:=o166 X.w.params) ⋯ ⋯ rfl rfl rfl rfl rfl rfl rfl rfl ⋯ ⋯ ⋯
theorem XX.b_set_seqs(X:XX C):Binds C (aY (y8 X.w.params)) ["self","a","b"] []:=X.bnd 3 rfl λ_ _ _ _=>by rfl'
theorem XX.d_set_seq1(X:XX C):Def C 174 (aY (y7 X.w.params)) (cL (stB 5 3)):=X.def_ (c:=173) (oc:=o173 X.w.params) ⋯ ⋯ rfl rfl rfl rfl rfl rfl rfl rfl ⋯ ⋯ ⋯
theorem XX.b_set_seq1(X:XX C):Binds C (aY (y7 X.w.params)) ["self","a"] []:=X.bnd 2 rfl λ_ _ _=>by rfl'
theorem XX.d_set_seq2(X:XX C):Def C 181 (aY (y6 X.w.params)) (cL (stB 5 4)):=X.def_ (c:=180) (oc:=o180 X.w.params) ⋯ ⋯ rfl rfl rfl rfl rfl rfl rfl rfl ⋯ ⋯ ⋯
theorem XX.b_set_seq2(X:XX C):Binds C (aY (y6 X.w.params)) ["self","b"] []:=X.bnd 2 rfl λ_ _ _=>by rfl'
theorem XX.d_chain_b(X:XX C):Def C 188 (aY (y5 X.w.params)) (cL (stB 5 5)):=X.def_ (c:=187) (oc:=o187 X.w.params) ⋯ ⋯ rfl rfl rfl rfl rfl rfl rfl rfl ⋯ ⋯ ⋯
theorem XX.b_chain_b(X:XX C):Binds C (aY (y5 X.w.params)) ["self"] []:=X.bnd 1 rfl λ_ _=>by rfl'
theorem XX.d_find_longest_match(X:XX C):Def C 196 (aY (y4 X.w.params)) (cL (stB 5 6)):=X.def_ (c:=195) (oc:=o195 X.w.params) ⋯ ⋯ rfl rfl rfl rfl rfl rfl rfl rfl ⋯ ⋯ ⋯
theorem XX.b_find_longest_match(X:XX C):Binds C (aY (y4 X.w.params)) ["self","alo","ahi","blo","bhi"] []:=X.bnd 5 rfl λ_ _ _ _ _ _=>by rfl'
theorem XX.d_get_matching_blocks(X:XX C):Def C 203 (aY (y1 X.w.params)) (cL (stB 5 7)):=X.def_ (c:=202) (oc:=o202 X.w.params) ⋯ ⋯ rfl rfl rfl rfl rfl rfl rfl rfl ⋯ ⋯ ⋯
theorem XX.b_get_matching_blocks(X:XX C):Binds C (aY (y1 X.w.params)) ["self"] []:=X.bnd 1 rfl λ_ _=>by rfl'
theorem XX.d_get_opcodes(X:XX C):Def C 210 (aY (yZ X.w.params)) (cL (stB 5 8)):=X.def_ (c:=209) (oc:=o209 X.w.params) ⋯ ⋯ rfl rfl rfl rfl rfl rfl rfl rfl ⋯ ⋯ ⋯
theorem XX.b_get_opcodes(X:XX C):Binds C (aY (yZ X.w.params)) ["self"] []:=X.bnd 1 rfl λ_ _=>by rfl'
theorem XX.d_get_grouped_opcodes(X:XX C):Def C 218 (aY (rH X.w.params)) (cL (stB 5 9)):=X.def_ (c:=217) (oc:=o217 X.w.params) ⋯ ⋯ rfl rfl rfl rfl rfl rfl rfl rfl ⋯ ⋯ ⋯
theorem XX.b_get_grouped_opcodes(X:XX C):Binds C (aY (rH X.w.params)) ["self","n"] []:=X.bnd 2 rfl λ_ _ _=>by rfl'
theorem XX.b_get_grouped_opcodes1(X:XX C):Binds C (aY (rH X.w.params)) ["self","n"] [Value.int 3 534]:=X.bnd 1 rfl λ_ _=>by rfl'
theorem XX.d__law_lists(X:XX C):Def C 253 (aY (o253 X.w.params)) (cL (stA 7)):=X.def_ (c:=252) (oc:=o252 X.w.params) ⋯ ⋯ rfl rfl rfl rfl rfl rfl rfl rfl ⋯ ⋯ ⋯
theorem XX.b__law_lists(X:XX C):Binds C (aY (o253 X.w.params)) ["numbers"] []:=X.bnd 1 rfl λ_ _=>by rfl'
theorem XX.d__law_parts(X:XX C):Def C 260 (aY (o260 X.w.params)) (cL (stA 8)):=X.def_ (c:=259) (oc:=o259 X.w.params) ⋯ ⋯ rfl rfl rfl rfl rfl rfl rfl rfl ⋯ ⋯ ⋯
theorem XX.b__law_parts(X:XX C):Binds C (aY (o260 X.w.params)) ["blocks"] []:=X.bnd 1 rfl λ_ _=>by rfl'
theorem XX.d__law_cheapest(X:XX C):Def C 267 (aY (o267 X.w.params)) (cL (stA 9)):=X.def_ (c:=266) (oc:=o266 X.w.params) ⋯ ⋯ rfl rfl rfl rfl rfl rfl rfl rfl ⋯ ⋯ ⋯
theorem XX.b__law_cheapest(X:XX C):Binds C (aY (o267 X.w.params)) ["kept","n"] []:=X.bnd 2 rfl λ_ _ _=>by rfl'
theorem XX.d__law_shown(X:XX C):Def C 274 (aY (o274 X.w.params)) (cL (stA 10)):=X.def_ (c:=273) (oc:=o273 X.w.params) ⋯ ⋯ rfl rfl rfl rfl rfl rfl rfl rfl ⋯ ⋯ ⋯
theorem XX.b__law_shown(X:XX C):Binds C (aY (o274 X.w.params)) ["changes","kept","n","begin","end"] []:=X.bnd 5 rfl λ_ _ _ _ _ _=>by rfl'
theorem XX.d_law(X:XX C):Def C 279 (aY (yY X.w.params)) (cL (stA 11)):=X.def_ (c:=278) (oc:=o278 X.w.params) ⋯ ⋯ rfl rfl rfl rfl rfl rfl rfl rfl ⋯ ⋯ ⋯
theorem XX.b_law(X:XX C):Binds C (aY (yY X.w.params)) ["script"] []:=X.bnd 1 rfl λ_ _=>by rfl'
theorem XX.gc(X:XX C):GCx C (gsh X.w.params) where
 gr:=X.gr
 loc:=λL x=>by
  have h:∀ k,((gsh X.w.params).envL L).kindOf x=some k->k≠ .cell/\k≠ .free:=λk e=>by
   have h2:(aY (rH X.w.params)).scope.names.all (λp=>match p.2 with | .cell=>false | .free=>false |_=>true)=true:=by rfl'
   have:=all_eq_true.mp h2 _ (mem_of_lookup e)
   constructor<;>rintro rfl<;>simp at this
  exact⟨λe=>(h _ e).1 rfl,λe=>(h _ e).2 rfl⟩
 cells:=λL=>by rfl'
 kind:=by rfl'
 gl:=by rfl'
 bi:=by rfl'
end
section
variable {C:Cx}{r:Nat}
universe u v
structure Pk(α:Type u)(P:α->Prop):Type u where
 f:α
 ok:P f
def bd{α:Type u}{P:α->Prop}{β:Type v}(o:Option (Pk α P))(k:∀ f,P f->Option β):Option β:=o.rec none λR=>R.rec k
def gtO{α:Type u}{P:α->Prop}(o:Option (Pk α P)):Option α:=o.rec none λR=>some R.1
theorem rF{α:Type u}{P:α->Prop}{o:Option (Pk α P)}{f:α}(h:gtO o=some f):P f:=by
 cases o with
 |none=>cases h
 |some R=>cases h;exact R.2
def orE{β:Type u}(o k:Option β):Option β:=o.rec k some
def onN{β:Type u}(n m:Nat)(k:n=m->Option β)(o:Option β):Option β:=if h:n=m then k h else o
def onS{β:Type u}(x y:Str)(k:x=y->Option β)(o:Option β):Option β:=if h:x=y then k h else o
def onB{β:Type u}(b:Bool)(k:b=true->Option β):Option β:=if h:b=true then k h else none
def onF{β:Type u}(b:Bool)(k:b=false->Option β):Option β:=if h:b=false then k h else none
noncomputable abbrev Kn:=Str->Option NameKind
structure KE(κ:Kn)(env:Env):Prop where
 kd:env.kindOf=κ
 sk:env.scope.kind= .function
structure Pf(e:Expr):Prop where
 star:∀ es env,starEach (e::es) env=(false,eval e env)::starEach es env
 sub:∀ o i,subscripted e false o i=operate [o,i] (getItem o i)
 beh:∀ op,behindInMarks op e=false
 fold:∀ env x,foldedSetIterable e env x=pure x
 sw:e.ctorIdx.beq 8=false->∀ t l env,swapsWith e t l env=pure false
 nb:e.ctorIdx.beq 16=false->∀ x env,attributeBase e x env (eval e env)=eval e env
 lg:e.ctorIdx.beq 23=true->∀ o x,letTemporaryGo e o x=pure ()
 tv:(e.ctorIdx.beq 0 || e.ctorIdx.beq 3 || e.ctorIdx.beq 5 || e.ctorIdx.beq 15)=false->∀ env,isTrue e env (eval e env)=(do let v<-eval e env;standAt e.pos;holding [v] (truthy v))
 nt:e.ctorIdx.beq 25=false->∀ ts n p env,swappedStores [.Tuple ts n p] e env=pure none
theorem eR{e:Expr}(h: [0,2,3,5,6,8,15,16,19,20,21,23,24,25].elem e.ctorIdx=true):Pf e:=by
 have z:∀ {P:Prop},true=false->P:=λh=>(Bool.false_ne_true h.symm).elim
 cases e<;>first |exact z h.symm |exact ⟨λ_ _=>rfl,λ_ _=>rfl,λ_=>rfl,λ_ _=>rfl,by first |exact λ_ _ _ _=>rfl |exact z,by first |exact λ_ _ _=>rfl |exact z,by first |exact λh=>z h.symm |exact λ_ _ _=>rfl,by first |exact λ_ _=>rfl |exact z,by first |exact λ_ _ _ _ _=>rfl |exact z⟩
structure EP(C:Cx)(r:Nat)(κ:Kn)(e:Expr)(f:EF):Prop where
 ok:∀ ⦃env:Env⦄,KE κ env->EV C r env e f
 pf:Pf e
noncomputable abbrev RE(C:Cx)(r:Nat)(κ:Kn)(e:Expr):=Pk EF (EP C r κ e)
structure EsP(C:Cx)(r:Nat)(κ:Kn)(es:List Expr)(f:EFs):Prop where
 ok:∀ ⦃env:Env⦄,KE κ env->EVs C r env es f
 fl:∀ env,k9 env es
def TP(C:Cx)(r:Nat)(κ:Kn)(e:Expr)(f:TF):Prop:=∀ ⦃env:Env⦄,KE κ env->TV C r env e f
noncomputable abbrev RT(C:Cx)(r:Nat)(κ:Kn)(e:Expr):=Pk TF (TP C r κ e)
noncomputable abbrev dEt(C:Cx)(r:Nat):=∀ (κ:Kn) (e:Expr),Option (RE C r κ e)
noncomputable abbrev dTt(C:Cx)(r:Nat):=∀ (κ:Kn) (e:Expr),Option (RT C r κ e)
structure Fn(C:Cx) where
 x:Str
 n:Nat
 v:Value
 r0:Nat
 g:CF
 cv:CV C r0 v g
 gl:Glo C x v
structure Mth(C:Cx) where
 x:Str
 n:Nat
 a:Addr
 r0:Nat
 g:CF
 cv:CV C r0 (.ref a) g
 hm:eA.contains (x,a)=true
structure Kti(C:Cx) where
 K:ItK C
 fi:EF->IF K
 ok:∀ {r env e f},EV C r env e f->IV K r env e (fi f)
 re:gR K
 tg:∀ t,K.tg t
structure DX(C:Cx) where
 smc:SMC C
 T:List (Fn C)
 M:List (Mth C)
 kt:Expr->Kti C
 fr:Frag
 km:KMx C fr
 en:Glo C "enumerate" (.type "enumerate")
 sys:∃ o,C.base.heap.get? sysModules=some o
 xe:∀ {r:Nat} (d:dEt C r) (t:dTt C r) (κ:Kn) (e:Expr),Option (RE C r κ e)
 xt:∀ {r:Nat} (d:dEt C r) (κ:Kn) (e:Expr),Option (RT C r κ e)
 xs:∀ {r:Nat} (d:dEt C r) (κ:Kn) (st:Stmt),Option (Pk SF λf=>∀ ⦃env:Env⦄,KE κ env->SV C r env st f)
def dCo(κ:Kn)(c:Const)(k:Nat)(p:Pos):Option (RE C r κ (.Constant c k p)):=have pf:Pf (.Constant c k p):=eR rfl
 onN c.ctorIdx 2 (λh=>Const.int.elim (motive:=λc=>Pf (.Constant c k p)->Option (RE C r κ (.Constant c k p))) c h (λi pf=>some ⟨eK (.int i),λ_ _=>EV.int,pf⟩) pf) <|
 onN c.ctorIdx 5 (λh=>Const.str.elim (motive:=λc=>Pf (.Constant c k p)->Option (RE C r κ (.Constant c k p))) c h (λi pf=>some ⟨eK (.str i),λ_ _=>EV.str,pf⟩) pf) <|
 onN c.ctorIdx 1 (λh=>Const.bool.elim (motive:=λc=>Pf (.Constant c k p)->Option (RE C r κ (.Constant c k p))) c h (λi pf=>some ⟨eK (.bool i),λ_ _=>EV.bool,pf⟩) pf) <|
 onN c.ctorIdx 0 (λh=>Const.none.elim (motive:=λc=>Pf (.Constant c k p)->Option (RE C r κ (.Constant c k p))) c h (λpf=>some ⟨eK .none,λ_ _=>EV.none,pf⟩) pf) none
def nmK(κ:Kn)(x:Str):Bool:=(match κ x with |some .local=>true |some .cell=>true |some .free=>true |_=>false) && !(x==("__debug__" :Str)) && !(x==("__classdict__" :Str))
theorem KE.nm{κ:Kn}{env:Env}(k:KE κ env){x:Str}(h:nmK κ x=true):nmL env x=true:=by unfold nmL;rw[k.kd];exact h
def glK(κ:Kn)(x:Str):Bool:=κ x==some .globalImplicit && !(x==("__debug__" :Str))
theorem KE.gl{κ:Kn}{env:Env}(k:KE κ env){x:Str}(h:glK κ x=true):env.kindOf x=some .globalImplicit/\(x==("__debug__" :Str))=false:=have h2:=and_eq_true_iff.mp h
 ⟨by rw[k.kd];exact eq_of_beq h2.1,Bool.not_eq_true' _ |>.mp h2.2⟩
def dEs(d:dEt C r)(κ:Kn)(es:List Expr):Option (Pk EFs (EsP C r κ es)):=es.rec
 (some ⟨esN,λ_ _=>EVs.nil,λ_=>⟨.inl rfl,λ_=>rfl⟩⟩)
 λe es ih=>bd (d κ e) λf h=>bd ih λg hs=>some ⟨esC f g,λ_ k=>EVs.cons (h.ok k) (hs.ok k) (h.pf.star _ _),λenv=>⟨.inr ⟨e,es,rfl,h.pf.star _ _⟩,λpos=>by rw[h.pf.star];exact(hs.fl env).2 pos⟩⟩
theorem EsP.al{κ:Kn}{es:List Expr}{f:EFs}(h:EsP C r κ es f)(env:Env)(pos:Pos):(backTo pos (starEach es env)).all (λx=> !x.1)=true:=by
 rw[<-List.not_any_eq_all_not,(h.fl env).2];rfl
def opP(C:Cx)(r:Nat)(op:Operator)(g:OpF):Prop:=OpR C r (binaryOp op) g
def dOp(op:Operator):Option (Pk OpF (opP C r op)):=op.casesOn (motive:=λop=>Option (Pk OpF (opP C r op))) (some ⟨aI,OpR.add⟩) (some ⟨cE,OpR.sub⟩) (some ⟨oMul,OpR.mul⟩) none none (some ⟨l0,OpR.mod⟩) none none none none none none (some ⟨yX,OpR.div⟩)
def cmP(C:Cx)(r:Nat)(op:CmpOp)(g:OpF):Prop:=OpR C r (compareOp op) g
def dCm(op:CmpOp):Option (Pk OpF (cmP C r op)):=op.casesOn (motive:=λop=>Option (Pk OpF (cmP C r op))) (some ⟨bG id,OpR.eq⟩) (some ⟨bG not,OpR.ne⟩) (some ⟨bC λx y=>decide (x<y),OpR.lt⟩) (some ⟨bC λx y=>decide (x<=y),OpR.le⟩) (some ⟨bC λx y=>decide (x>y),OpR.gt⟩) (some ⟨bC λx y=>decide (x>=y),OpR.ge⟩) (some ⟨oIs id,OpR.is_⟩) (some ⟨oIs not,OpR.isNot⟩) (some ⟨oIn id,OpR.in_⟩) (some ⟨oIn not,OpR.notIn⟩)
def fnd(x:Str)(n:Nat)(l:List (Fn C)):Option (Pk (Fn C) λt=>t.x=x):=l.rec none λt _ ih=>onS t.x x (λh=>bif t.n.beq 99 || t.n.beq n then some ⟨t,h⟩ else ih) ih
def fndM(x:Str)(n:Nat)(l:List (Mth C)):Option (Pk (Mth C) λt=>t.x=x):=l.rec none λt _ ih=>onS t.x x (λh=>bif t.n.beq 99 || t.n.beq n then some ⟨t,h⟩ else ih) ih
theorem mshape{κ:Kn}{env:Env}{o:Expr}{x:Str}{ap pos:Pos}{as:List Expr}{f:EFs}(p:Pf o)(hc:o.ctorIdx.beq 16=false)(al:EsP C r κ as f)(hl:as.length.blt 30=true)(hk:(ap.endLine==pos.line)=true):eX env o x ap pos as:=⟨p.nb hc _ _,by rw[al.al];exact decide_eq_true (le_of_ble_eq_true hl),hk⟩
theorem bk1{e:Expr}(p:Pf e)(env:Env)(pos:Pos):backTo pos (starEach [e] env)= [(false,eval e env)]:=by rw[p.star];rfl
theorem bk2{e e2:Expr}(p:Pf e)(q:Pf e2)(env:Env)(pos:Pos):backTo pos (starEach [e,e2] env)= [(false,eval e env),(false,eval e2 env)]:=by rw[p.star,q.star];rfl
theorem pfC{f:Expr}{as:List Expr}{ks:List Keyword}{p:Pos}:Pf (.Call f as ks p):=eR rfl
theorem es1{κ:Kn}{e:Expr}{f:EF}(h:EP C r κ e f):EsP C r κ [e] (esC f esN):=⟨λ_ k=>EVs.cons (h.ok k) EVs.nil (h.pf.star _ _),λenv=>⟨.inr ⟨e,_,rfl,h.pf.star _ _⟩,λpos=>by rw[h.pf.star];rfl⟩⟩
theorem es0{κ:Kn}:EsP C r κ [] esN:=⟨λ_ _=>EVs.nil,λ_=>⟨.inl rfl,λ_=>rfl⟩⟩
theorem es2{κ:Kn}{e e2:Expr}{f f2:EF}(h:EP C r κ e f)(h2:EP C r κ e2 f2):EsP C r κ [e,e2] (esC f (esC f2 esN)):=⟨λ_ k=>EVs.cons (h.ok k) ((es1 h2).ok k) (h.pf.star _ _),λenv=>⟨.inr ⟨e,_,rfl,h.pf.star _ _⟩,λpos=>by rw[h.pf.star];exact((es1 h2).fl env).2 pos⟩⟩
def dMe(D:DX C)(d:dEt C r)(κ:Kn)(o:Expr)(m:Str)(ap:Pos)(as:List Expr)(pos:Pos)(f:EF)(h:EP C r κ o f)(hc:o.ctorIdx.beq 16=false)(hk:(ap.endLine==pos.line)=true):Option (RE C r κ (.Call (.Attribute o m ap) as [] pos)):=orE (onS m "append" (λq=>as.casesOn none λe z=>z.casesOn (bd (d κ e) λf2 h2=>some ⟨bZ f f2,λ_ k=>by subst q;exact EV.append (h.ok k) (h2.ok k) (mshape h.pf hc (es1 h2) rfl hk) (bk1 h2.pf _ _),pfC⟩) λ_ _=>none) <|
  onS m "pop" (λq=>as.casesOn (some ⟨ePop f,λ_ k=>by subst q;exact EV.pop (h.ok k) (mshape h.pf hc (es0 (C:=C) (r:=r) (κ:=κ)) rfl hk),pfC⟩) λ_ _=>none) <|
  onS m "setdefault" (λq=>as.casesOn none λe z=>z.casesOn none λe2 z=>z.casesOn (bd (d κ e) λf2 h2=>bd (d κ e2) λf3 h3=>some ⟨vJ f f2 f3,λ_ k=>by subst q;exact EV.setdefault D.sys (h.ok k) (h2.ok k) (h3.ok k) (mshape h.pf hc (es2 h2 h3) rfl hk) (bk2 h2.pf h3.pf _ _),pfC⟩) λ_ _=>none) <|
  onS m "get" (λq=>as.casesOn none λe z=>z.casesOn none λe2 z=>z.casesOn (bd (d κ e) λf2 h2=>bd (d κ e2) λf3 h3=>some ⟨eGet f f2 f3,λ_ k=>by subst q;exact EV.get D.sys (h.ok k) (h2.ok k) (h3.ok k) (mshape h.pf hc (es2 h2 h3) rfl hk) (bk2 h2.pf h3.pf _ _),pfC⟩) λ_ _=>none) none) <|
 bd (dEs d κ as) λg hs=>bd (fndM m as.length D.M) λt te=>onB (t.r0.ble r) λhr=>onB (as.length.blt 30) λhl=>some ⟨eF t.g f g,λ_ k=>EV.meth D.smc (te▸List.contains_iff_mem.mp t.hm) (t.cv.lift hr) (h.ok k) (hs.ok k) (hs.fl _) (mshape h.pf hc hs hl hk),pfC⟩
def dCl(D:DX C)(d:dEt C r)(κ:Kn)(fn:Expr)(as:List Expr)(ks:List Keyword)(pos:Pos):Option (RE C r κ (.Call fn as ks pos)):=ks.casesOn (onN fn.ctorIdx 23 (λq=>Expr.Name.elim fn q λx np=>orE
  (onB (nmK κ x) λhx=>bd (dEs d κ as) λg hs=>some ⟨eCv (eN x) g,λ_ k=>EV.callV D.sys (EV.nm (k.nm hx)) (hs.ok k) (hs.fl _),pfC⟩) <|
  onB (glK κ x) λhg=>bd (dEs d κ as) λg hs=>bd (fnd x as.length D.T) λt te=>onB (t.r0.ble r) λhr=>some ⟨aM t.g g,λ_ k=>EV.call (t.cv.lift hr) (te▸t.gl) (hs.ok k) (hs.fl _) (k.gl hg).1 (k.gl hg).2,pfC⟩) <|
 onN fn.ctorIdx 20 (λq=>Expr.Attribute.elim fn q λo m ap=>bd (d κ o) λf h=>onF (o.ctorIdx.beq 16) λhc=>onB (ap.endLine==pos.line) λhk=>dMe D d κ o m ap as pos f h hc hk) none) λ_ _=>none
def alP(C:Cx)(r:Nat)(κ:Kn)(op:BoolOp)(es:List Expr)(f:TF):Prop:=∀ ⦃env:Env⦄,KE κ env->iM C r env op es f
def dAll(t:dTt C r)(κ:Kn)(op:BoolOp)(es:List Expr):Option (Pk TF (alP C r κ op es)):=op.casesOn (motive:=λop=>Option (Pk TF (alP C r κ op es)))
 (es.rec (some ⟨tK true,λ_ _=>iM.and_nil⟩) λe es ih=>bd (t κ e) λf h=>bd ih λg hs=>some ⟨bV f g,λ_ k=>iM.and_cons (h k) (hs k)⟩)
 (es.rec (some ⟨tK false,λ_ _=>iM.or_nil⟩) λe es ih=>bd (t κ e) λf h=>bd ih λg hs=>some ⟨tOr f g,λ_ k=>iM.or_cons (h k) (hs k)⟩)
def dCmp{M:Expr->Type}(d:dEt C r)(κ:Kn)(l:Expr)(ops:List CmpOp)(rs:List Expr)(p:Pos)(w:∀ op e f g o,EP C r κ l f->EP C r κ e g->cmP C r op o->M (.Compare l [op] [e] p)):Option (M (.Compare l ops rs p)):=ops.casesOn none λop z=>z.casesOn (rs.casesOn none λe z=>z.casesOn (bd (d κ l) λf h=>bd (d κ e) λg h2=>bd (dCm (C:=C) (r:=r) op) λo ho=>some (w op e f g o h h2 ho)) λ_ _=>none) λ_ _=>none
def dT1(D:DX C)(d:dEt C r)(t:dTt C r):dTt C r:=λκ e=>
 orE (onN e.ctorIdx 3 (λq=>Expr.UnaryOp.elim e q λop x p=>onN op.ctorIdx 1 (λq=>UnaryOp.Not.elim (motive:=λop=>Option (RT C r κ (.UnaryOp op x p))) op q <| bd (t κ x) λf h=>some ⟨v9 f,λ_ k=>TV.not (h k)⟩) none) <|
  onN e.ctorIdx 0 (λq=>Expr.BoolOp.elim e q λop vs p=>bd (dAll t κ op vs) λf h=>some ⟨f,λ_ k=>TV.boolOp (h k)⟩) <|
  onN e.ctorIdx 15 (λq=>Expr.Compare.elim e q λl ops rs p=>dCmp d κ l ops rs p λop e f g o h h2 ho=>⟨tE (aB o f g),λ_ k=>TV.cmp1 (h.ok k) (h2.ok k) ho (h2.pf.beh _)⟩) <|
  onF (e.ctorIdx.beq 0 || e.ctorIdx.beq 3 || e.ctorIdx.beq 5 || e.ctorIdx.beq 15) λhs=>bd (d κ e) λf h=>some ⟨tE f,λ_ k=>TV.val (h.ok k) (h.pf.tv hs _)⟩) <| D.xt d κ e
def dTi(D:DX C)(n:Nat)(d:dEt C r):dTt C r:=n.rec (λ_ _=>none) λ_ ih=>dT1 D d ih
structure RIt(C:Cx)(r:Nat)(κ:Kn)(e:Expr) where
 K:ItK C
 fi:IF K
 ok:∀ ⦃env:Env⦄,KE κ env->IV K r env e fi
 re:gR K
 b:Bool
 tg:∀ t,(b || t.ctorIdx.beq 25)=true->K.tg t
 nd:K.need<=r
 fold:∀ env x,foldedSetIterable e env x=pure x
def dEn(D:DX C)(d:dEt C r)(κ:Kn)(e:Expr):Option (RIt C r κ e):=onN e.ctorIdx 16 (λq=>Expr.Call.elim e q λfn as ks pos=>
 ks.casesOn (as.casesOn none λa z=>z.casesOn (onN fn.ctorIdx 23 (λq=>Expr.Name.elim fn q λx np=>
  onS x "enumerate" (λhx=>onB (glK κ "enumerate") λhg=>bd (d κ a) λf h=>some ⟨l8 C,iL f,λ_ k=>by subst hx;exact IV.enum (h.ok k) D.en (k.gl hg).1 ((es1 h).fl _) (h.pf.star _ _),gR.enum,false,
   λt ht=>Expr.Tuple.elim t (Nat.eq_of_beq_eq_true ht) λ_ _ _=>⟨_,_,_,rfl⟩,zero_le _,λ_ _=>rfl⟩) none) none) λ_ _=>none) λ_ _=>none) none
def dIi(D:DX C)(d:dEt C r)(κ:Kn)(e:Expr):Option (RIt C r κ e):=orE (dEn D d κ e) <| bd (d κ e) λf h=>onB ((D.kt e).K.need.ble r) λhn=>some ⟨(D.kt e).K,(D.kt e).fi f,λ_ k=>(D.kt e).ok (h.ok k),(D.kt e).re,true,λt _=>(D.kt e).tg t,le_of_ble_eq_true hn,h.pf.fold⟩
structure AP(W:Env->Addr->Prop)(C:Cx)(r:Nat)(κ:Kn)(e:Expr)(f:AF):Prop where
 ok:∀ ⦃env:Env⦄,KE κ env->AVW C W r env e f
 st:∀ ts env,assignEach (e::ts) env=(false,assign e env)::assignEach ts env
 s1:∀ v env,Pf v->(e.ctorIdx.beq 25 && v.ctorIdx.beq 25)=false->swappedStores [e] v env=pure none
 s2:∀ t ts v env,swappedStores (e::t::ts) v env=pure none
structure AsP(W:Env->Addr->Prop)(C:Cx)(r:Nat)(κ:Kn)(es:List Expr)(f:AFs):Prop where
 ok:∀ ⦃env:Env⦄,KE κ env->mS C W r env es f
 ln:∀ env,(assignEach es env).length=es.length
 nf:∀ env,(assignEach es env).findIdx? (·.1)=none
def dAs{W:Env->Addr->Prop}{κ:Kn}(a:∀ e,Option (Pk AF (AP W C r κ e)))(es:List Expr):Option (Pk AFs (AsP W C r κ es)):=es.rec
 (some ⟨asN,λ_ _=>mS.nil,λ_=>rfl,λ_=>rfl⟩)
 λe es ih=>bd (a e) λf h=>bd ih λg hs=>some ⟨asC f g,λ_ k=>mS.cons (h.ok k) (hs.ok k) (h.st _ _),λenv=>by rw[h.st];exact congrArg (·+1) (hs.ln env),λenv=>by rw[h.st,List.findIdx?_cons,hs.nf];rfl⟩
def dLi(κ:Kn)(n:Nat):∀ e,Option (Pk AF (AP LW C r κ e)):=n.rec (λ_=>none) λ_ ih e=>
 onN e.ctorIdx 23 (λq=>Expr.Name.elim e q λx p=>onB (κ x==some .local) λh=>some ⟨aN x,λ_ k=>ALV.name (by rw[k.kd];exact eq_of_beq h),λ_ _=>rfl,λ_ _ _ _=>rfl,λ_ _ _ _=>rfl⟩) <|
 onN e.ctorIdx 25 (λq=>Expr.Tuple.elim e q λts k p=>bd (dAs ih ts) λf h=>some ⟨t5 ts.length f,λ_ k=>ALV.tuple (h.ok k) (h.ln _) (h.nf _),λ_ _=>rfl,λ_ _ p n=>p.nt n _ _ _ _,λ_ _ _ _=>rfl⟩) none
def stK(κ:Kn)(x:Str):Bool:=match κ x with |some .local=>true |some .cell=>true |_=>false
theorem KE.st{κ:Kn}{env:Env}(k:KE κ env){l:List Str}(h:l.all (stK κ)=true):∀ x∈l,env.kindOf x=some .local\/env.kindOf x=some .cell:=nms_ok (by cases k.kd;exact h)
theorem KE.s_{κ:Kn}{env:Env}(k:KE κ env){x:Str}(h:stK κ x=true):env.kindOf x=some .local\/env.kindOf x=some .cell:=k.st (l:=[x]) (by show(stK κ x && true)=true;rw[Bool.and_true];exact h) x (.head _)
def dA(D:DX C)(d:dEt C r)(κ:Kn)(n:Nat):∀ e,Option (Pk AF (AP Wr C r κ e)):=n.rec (λ_=>none) λ_ ih e=>
 onN e.ctorIdx 23 (λq=>Expr.Name.elim e q λx p=>onB (stK κ x) λh=>some ⟨aN x,λ_ k=>AV.name (k.s_ h),λ_ _=>rfl,λ_ _ _ _=>rfl,λ_ _ _ _=>rfl⟩) <|
 onN e.ctorIdx 25 (λq=>Expr.Tuple.elim e q λts k p=>bd (dAs ih ts) λf h=>some ⟨b3 ts.length f,λ_ k=>AV.tupleM D.km (h.ok k) (h.ln _) (h.nf _),λ_ _=>rfl,λ_ _ p n=>p.nt n _ _ _ _,λ_ _ _ _=>rfl⟩) <|
 onN e.ctorIdx 21 (λq=>Expr.Subscript.elim e q λa b p=>bd (d κ a) λf h=>bd (d κ b) λg h2=>some ⟨qS f g,λ_ k=>AV.sub (h.ok k) (h2.ok k),λ_ _=>rfl,λ_ _ _ _=>rfl,λ_ _ _ _=>rfl⟩) <|
 onN e.ctorIdx 20 (λq=>Expr.Attribute.elim e q λa x p=>bd (d κ a) λf h=>onB (cS.contains x) λhx=>some ⟨d6 x f,λ_ k=>AV.attr D.smc (List.contains_iff_mem.mp hx) (h.ok k),λ_ _=>rfl,λ_ _ _ _=>rfl,λ_ _ _ _=>rfl⟩) none
def cKi(κ:Kn)(sc:Scope):Kn:=λx=>(sc.names.lookup x).map λk=>if (k== .free && ScopeKind.function==ScopeKind.function && κ x==some .cell)=true then .cell else k
theorem KE.comp{κ:Kn}{env:Env}{sc:Scope}(k:KE κ env)(h:sc.kind= .function)(L:Addr):KE (cKi κ sc) (fK env sc L):=⟨by
 funext x
 rw[iJ]
 unfold sY cKi
 rw[k.sk,k.kd],h⟩
def hidOf(sc:Scope):List Str:=sc.names.filterMap λp=>if (p.2== .local)=true then some p.1 else none
def csK(κ:Kn)(sc:Scope)(hid:List Str):Bool:=decide (sc.kind= .function) && ((sc.names.all λp=>p.2 != .cell) && ((sc.names.all λp=>p.2 != .free || (κ p.1==some .cell)) && ((sc.names.all λp=>p.2 != .local || (sc.names.lookup p.1==some .local && hid.contains p.1)) && (hid.all λx=>sc.names.lookup x != some .free))))
theorem KE.cs{κ:Kn}{env:Env}{sc:Scope}{hid:List Str}(k:KE κ env)(h:csK κ sc hid=true):kF env sc hid/\(hid.all λx=>sc.names.lookup x != some .free)=true:=have a:=and_eq_true_iff.mp h
 have b:=and_eq_true_iff.mp a.2
 have c:=and_eq_true_iff.mp b.2
 have e:=and_eq_true_iff.mp c.2
 ⟨⟨of_decide_eq_true a.1,b.1,by rw[k.kd];exact c.1,e.1⟩,e.2⟩
theorem cm_eq{g:Comprehension}(h:g.is_async=0):g=⟨g.target,g.iter,g.ifs,0⟩:=by
 cases g
 cases h
 rfl
def cnP(C:Cx)(r:Nat)(κ:Kn)(cs:List Expr)(f:TF):Prop:=∀ ⦃env:Env⦄,KE κ env->CnV C r env cs f
def dCn(t:dTt C r)(κ:Kn)(cs:List Expr):Option (Pk TF (cnP C r κ cs)):=cs.rec (some ⟨tK true,λ_ _=>CnV.nil⟩) λe es ih=>bd (t κ e) λf h=>bd ih λg hs=>some ⟨bV f g,λ_ k=>CnV.cons (h k) (hs k)⟩
def bP(C:Cx)(r:Nat)(κ:Kn)(elt:Expr)(gens:List Comprehension)(sc:Scope)(pos:Pos)(j:Nat)(f:BF):Prop:=∀ ⦃env:Env⦄,KE κ env->BV C r env elt gens sc pos j f
def dBi(D:DX C)(d:dEt C r)(t:dTt C r)(κ:Kn)(elt:Expr)(gens:List Comprehension)(sc:Scope)(pos:Pos)(n:Nat):∀ j,Option (Pk BF (bP C r κ elt gens sc pos j)):=n.rec (λ_=>none) λ_ ih j=>
 Option.rec (motive:=λo=>gens[j+1]? =o->Option (Pk BF (bP C r κ elt gens sc pos j))) (λhg=>bd (d κ elt) λf h=>some ⟨kY f,λ_ k=>BV.last (h.ok k) hg⟩)
  (λg hg=>(dIi D d κ g.iter).rec none λR=>bd (dLi (C:=C) (r:=r) κ 4 g.target) λta ht=>bd (dCn t κ g.ifs) λc hc=>bd (ih (j+1)) λbf hb=>onB (R.b || g.target.ctorIdx.beq 25) λhT=>if ha:g.is_async=0 then
   some ⟨bMore R.K R.fi ta c bf,λ_ k=>BV.more (hg.trans (congrArg some (cm_eq ha))) R.re (R.ok k) (ht.ok k) (hc k) (hb k) ⟨R.tg _ hT,R.nd⟩ (R.fold _)⟩ else none) gens[j+1]? rfl
structure CP(C:Cx)(r:Nat)(κ:Kn)(elt:Expr)(gens:List Comprehension)(sc:Scope)(pos:Pos)(f:EF):Prop where
 ok:∀ ⦃env:Env⦄,KE κ env->EV C r env (.ListComp elt gens sc pos) f
 as:∀ ⦃env:Env⦄{x:Str}{p q:Pos},KE κ env->env.kindOf x=some .local->swapsWith (.ListComp elt gens sc pos) (some (.Name x p)) q.line env=pure true->SV C r env (.Assign [.Name x p] (.ListComp elt gens sc pos) q) (aZ x f)
def dC(D:DX C)(d:dEt C r)(t:dTt C r)(κ:Kn)(elt:Expr)(gens:List Comprehension)(sc:Scope)(pos:Pos):Option (Pk EF (CP C r κ elt gens sc pos)):=gens.casesOn none λg gs=>g.casesOn λgt gi gf ga=>onB (csK κ sc (hidOf sc)) λhc=>
 (dIi D d κ gi).rec none λR=>bd (dLi (C:=C) (r:=r) (cKi κ sc) 4 gt) λta ht=>bd (dCn t (cKi κ sc) gf) λc hcn=>bd (dBi D d t (cKi κ sc) elt (⟨gt,gi,gf,0⟩::gs) sc pos 4 0) λbf hb=>onB (R.b || gt.ctorIdx.beq 25) λhT=>if ha:ga=0 then
  some ⟨mJ R.K (hidOf sc) R.fi ta c bf,ha.symm▸⟨λ_ k=>have q:=k.comp (k.cs hc).1.kind;EV.comp (k.cs hc).1 (k.cs hc).2 R.re (R.ok k) (λL=>ht.ok (q L)) (λL=>hcn (q L)) (λL=>hb (q L)) ⟨R.tg _ hT,R.nd⟩ (R.fold _),
   λ_ _ _ _ k hx hs=>have q:=k.comp (k.cs hc).1.kind;SV.assignC hx hs (k.cs hc).1 (k.cs hc).2 R.re (R.ok k) (λL=>ht.ok (q L)) (λL=>hcn (q L)) (λL=>hb (q L)) ⟨R.tg _ hT,R.nd⟩ (R.fold _)⟩⟩ else none
theorem nm_cl{e:Expr}(h:e.ctorIdx.beq 23=true):e.ctorIdx.beq 16=false:=by rw[Nat.eq_of_beq_eq_true h];rfl
def dAt(D:DX C)(d:dEt C r)(κ:Kn)(a:Expr)(x:Str)(p:Pos):Option (RE C r κ (.Attribute a x p)):=have pf:Pf (.Attribute a x p):=eR rfl
 bd (d κ a) λf h=>orE (onB (a.ctorIdx.beq 23) λhn=>orE
   (onB (cS.contains x) λhx=>some ⟨dY x f,λ_ k=>EV.attr D.smc (List.contains_iff_mem.mp hx) (h.ok k) (h.pf.nb (nm_cl hn) _ _) (h.pf.lg hn),pf⟩)
   (onS x "get" (λhx=>some ⟨eBd .dget okD f,λ_ k=>by subst hx;exact EV.dget (h.ok k) (h.pf.nb (nm_cl hn) _ _) (h.pf.lg hn),pf⟩) none)) <|
  onF (a.ctorIdx.beq 16) λhc=>onS x "__contains__" (λhx=>some ⟨eBd .scon okS f,λ_ k=>by subst hx;exact EV.scon2 (h.ok k) (h.pf.nb hc _ _),pf⟩) none
def dE1(D:DX C)(d:dEt C r):dEt C r:=λκ e=>orE
 (onN e.ctorIdx 23 (λq=>Expr.Name.elim e q λx p=>onB (nmK κ x) λh=>some ⟨eN x,λ_ k=>EV.nm (k.nm h),eR rfl⟩) <|
 onN e.ctorIdx 19 (λq=>Expr.Constant.elim e q λc k p=>dCo κ c k p) <|
 onN e.ctorIdx 2 (λq=>Expr.BinOp.elim e q λa op b p=>bd (d κ a) λf h=>bd (d κ b) λg h2=>bd (dOp (C:=C) (r:=r) op) λo ho=>some ⟨aB o f g,λ_ k=>EV.binOp (h.ok k) (h2.ok k) ho,eR rfl⟩) <|
 onN e.ctorIdx 21 (λq=>Expr.Subscript.elim e q λa b p=>bd (d κ a) λf h=>bd (d κ b) λg h2=>some ⟨aB aR f g,λ_ k=>EV.idx (h.ok k) (h2.ok k) λo i=>⟨_,h2.pf.sub o i⟩,eR rfl⟩) <|
 onN e.ctorIdx 15 (λq=>Expr.Compare.elim e q λl ops rs p=>dCmp d κ l ops rs p λop e f g o h h2 ho=>⟨aB o f g,λ_ k=>EV.cmp1 (h.ok k) (h2.ok k) ho (h2.pf.beh _),eR rfl⟩) <|
 onN e.ctorIdx 3 (λq=>Expr.UnaryOp.elim e q λop a p=>onN op.ctorIdx 3 (λq=>UnaryOp.USub.elim (motive:=λop=>Option (RE C r κ (.UnaryOp op a p))) op q <| bd (d κ a) λf h=>some ⟨i8 f,λ_ k=>EV.neg (h.ok k),eR rfl⟩) none) <|
 onN e.ctorIdx 25 (λq=>Expr.Tuple.elim e q λes k p=>bd (dEs d κ es) λf h=>some ⟨aW f,λ_ k=>EV.tuple (h.ok k),eR rfl⟩) <|
 onN e.ctorIdx 24 (λq=>Expr.List.elim e q λes p=>bd (dEs d κ es) λf h=>some ⟨d9 f,λ_ k=>EV.list (h.ok k),eR rfl⟩) <|
 onN e.ctorIdx 6 (λq=>Expr.Dict.elim e q λks vs p=>ks.casesOn (vs.casesOn (some ⟨n7,λ_ _=>EV.dict0,eR rfl⟩) λ_ _=>none) λ_ _=>none) <|
 onN e.ctorIdx 20 (λq=>Expr.Attribute.elim e q λa x p=>dAt D d κ a x p) <|
 onN e.ctorIdx 8 (λq=>Expr.ListComp.elim e q λelt gs sc p=>bd (dC D d (dTi D 9 d) κ elt gs sc p) λf h=>some ⟨f,h.ok,eR rfl⟩) <|
 onN e.ctorIdx 16 (λq=>Expr.Call.elim e q λfn as ks p=>dCl D d κ fn as ks p) none) <| D.xe d (dTi D 9 d) κ e
def dE(D:DX C)(n:Nat):dEt C r:=n.rec (λ_ _=>none) λ_ ih=>dE1 D ih
def SP(C:Cx)(r:Nat)(κ:Kn)(st:Stmt)(f:SF):Prop:=∀ ⦃env:Env⦄,KE κ env->SV C r env st f
def SsP(C:Cx)(r:Nat)(κ:Kn)(st:List Stmt)(f:SF):Prop:=∀ ⦃env:Env⦄,KE κ env->SVs C r env st f
noncomputable abbrev dSt(C:Cx)(r:Nat):=∀ (κ:Kn) (st:Stmt),Option (Pk SF (SP C r κ st))
theorem KE.ia{κ:Kn}{env:Env}(k:KE κ env):interactive env=false:=by unfold interactive;rw[k.sk];rfl
def swK(κ:Kn)(x:Str)(a b:Nat)(sc:Scope):Bool:=ScopeKind.function==ScopeKind.function && κ x==some .local && a==b && !(sc.names.any fun(n,k)=>n==x && (k== .local || k== .cell))
theorem KE.bk{κ:Kn}{env:Env}(k:KE κ env):env.blockKind= .function:=by unfold Env.blockKind;rw[k.sk];rfl
theorem KE.sw{κ:Kn}{env:Env}(k:KE κ env){elt:Expr}{gs:List Comprehension}{sc:Scope}{q p:Pos}{x:Str}{l:Nat}:swapsWith (.ListComp elt gs sc q) (some (.Name x p)) l env=pure (swK κ x p.line q.line sc):=by
 show pure (env.blockKind== .function && env.kindOf x==some .local && p.line==q.line && !(sc.names.any fun(n,k)=>n==x && (k== .local || k== .cell)))=_
 rw[k.bk,k.kd];rfl
theorem aC1{κ:Kn}{x:Str}{a b:Nat}{sc:Scope}(h:swK κ x a b sc=true):κ x=some .local:=eq_of_beq (and_eq_true_iff.mp (and_eq_true_iff.mp (and_eq_true_iff.mp h).1).1).2
def isSt(e:Expr):Bool:=swappedStores.match_5 (λ_=>Bool) e (λ_ _=>true) λ_=>false
def nms(κ:Kn)(ts:List Expr):List Str:=ts.filterMap λx=>swappedStores.match_8 (λ_=>Option Str) x (λid pos=>if κ id==some .local && pos.line==(ts.head?.map (·.pos.line)).getD 0 then some id else none) λ_=>none
def w1(ts vs:List Expr):Bool:= !(ts.length==2 || ts.length==3) || vs.length != ts.length || ScopeKind.function != ScopeKind.function
def w2(κ:Kn)(ts:List Expr):Bool:=(nms κ ts).length != ts.length || (nms κ ts).eraseDups.length != (nms κ ts).length
theorem itT{α:Type}{a b:Bool}{x y:α}(h:(a || b)=true)(k:b=true->y=x):(if a=true then x else y)=x:=by
 cases a with
 |true=>rfl
 |false=>exact k h
theorem itF{α:Type}{a b:Bool}{x y z:α}(h:(a || b)=false)(k:b=false->y=z):(if a=true then x else y)=z:=by
 cases a with
 |true=>cases h
 |false=>exact k h
theorem KE.s0{κ:Kn}{env:Env}(k:KE κ env){ts vs:List Expr}{n m:Nat}{p q:Pos}(h:(w1 ts vs || (vs.any isSt || (w2 κ ts || vs.all (foldedForSure 8))))=true):swappedStores [.Tuple ts n p] (.Tuple vs m q) env=pure none:=by
 cases k.kd
 unfold swappedStores
 rw[k.bk]
 exact itT h λh=>itT h λh=>itT h λh=>if_pos h
theorem KE.s1{κ:Kn}{env:Env}(k:KE κ env){ts vs:List Expr}{n m:Nat}{p q:Pos}(h:(w1 ts vs || (vs.any isSt || (w2 κ ts || (vs.all (foldedForSure 8) || vs.all (constantsAlone 8)))))=false):swappedStores [.Tuple ts n p] (.Tuple vs m q) env=pure (some (nms κ ts)):=by
 cases k.kd
 unfold swappedStores
 rw[k.bk]
 exact itF h λh=>itF h λh=>itF h λh=>itF h λh=>if_neg (by rw[h];exact Bool.false_ne_true)
def dAg(D:DX C)(d:dEt C r)(κ:Kn)(t e:Expr)(pos:Pos):Option (Pk SF (SP C r κ (.Assign [t] e pos))):=bd (d κ e) λf h=>onF (e.ctorIdx.beq 8) λhl=>bd (dA D d κ 4 t) λg hg=>onF (t.ctorIdx.beq 25 && e.ctorIdx.beq 25) λht=>
 some ⟨cC f g,λ_ k=>SV.assigns (h.ok k) (ALs.one (hg.ok k) (by rw[hg.st];rfl)) (h.pf.sw hl _ _ _) (hg.s1 _ _ h.pf ht)⟩
def dAn(D:DX C)(d:dEt C r)(κ:Kn)(x:Str)(p:Pos)(e:Expr)(pos:Pos):Option (Pk SF (SP C r κ (.Assign [.Name x p] e pos))):=onB (stK κ x) λhs=>orE
 (onN e.ctorIdx 8 (λq=>Expr.ListComp.elim e q λelt gs sc q=>bd (dC D d (dTi D 9 d) κ elt gs sc q) λf h=>
  some ⟨aZ x f,λ_ k=>(Bool.eq_false_or_eq_true (swK κ x p.line q.line sc)).elim (λhw=>h.as k (by rw[k.kd];exact aC1 hw) (by rw[k.sw,hw])) λhw=>SV.assign (h.ok k) (k.s_ hs) (by rw[k.sw,hw])⟩) none) <|
 bd (d κ e) λf h=>onF (e.ctorIdx.beq 8) λhl=>some ⟨aZ x f,λ_ k=>SV.assign (h.ok k) (k.s_ hs) (h.pf.sw hl _ _ _)⟩
def dAt2(D:DX C)(d:dEt C r)(κ:Kn)(ts vs:List Expr)(n m:Nat)(p q:Pos)(pos:Pos):Option (Pk SF (SP C r κ (.Assign [.Tuple ts n p] (.Tuple vs m q) pos))):=bd (d κ (.Tuple vs m q)) λf h=>orE
 (onB (w1 ts vs || (vs.any isSt || (w2 κ ts || vs.all (foldedForSure 8)))) λh1=>bd (dA D d κ 4 (.Tuple ts n p)) λg hg=>some ⟨cC f g,λenv k=>SV.assigns (h.ok k) (ALs.one (hg.ok k) (by rw[hg.st];rfl)) (h.pf.sw rfl (some (.Tuple ts n p)) pos.line env) (k.s0 h1)⟩) <|
 onF (w1 ts vs || (vs.any isSt || (w2 κ ts || (vs.all (foldedForSure 8) || vs.all (constantsAlone 8))))) λh2=>onB ((nms κ ts).all (stK κ)) λh3=>some ⟨cM (nms κ ts) f,λenv k=>SV.swap (h.ok k) (h.pf.sw rfl (some (.Tuple ts n p)) pos.line env) (k.s1 h2) (k.st h3)⟩
structure HP(C:Cx)(r:Nat)(κ:Kn)(ts:List Expr)(f:AF):Prop where
 ok:∀ ⦃env:Env⦄,KE κ env->ALs C r env ts f
 ne:∀ env,∃ x xs,(assignEach ts env).map (·.2)=x::xs
def dH(D:DX C)(d:dEt C r)(κ:Kn)(ts:List Expr):∀ t,Option (Pk AF (HP C r κ (t::ts))):=ts.rec
 (λt=>bd (dA D d κ 4 t) λg h=>some ⟨g,λ_ k=>ALs.one (h.ok k) (by rw[h.st];rfl),λ_=>by rw[h.st];exact⟨_,_,rfl⟩⟩)
 λt2 ts ih t=>bd (dA D d κ 4 t) λg h=>bd (ih t2) λf hs=>some ⟨fM g f,λenv k=>ALs.cons (h.ok k) (hs.ok k) (by rw[h.st];rfl) (hs.ne env),λ_=>by rw[h.st];exact⟨_,_,rfl⟩⟩
def dA2(D:DX C)(d:dEt C r)(κ:Kn)(t t2:Expr)(ts:List Expr)(e:Expr)(pos:Pos):Option (Pk SF (SP C r κ (.Assign (t::t2::ts) e pos))):=bd (d κ e) λf h=>bd (dA D d κ 4 t) λ_ h2=>bd (dH D d κ (t2::ts) t) λg hg=>some ⟨cC f g,λ_ k=>SV.assigns (h.ok k) (hg.ok k) rfl (h2.s2 _ _ _ _)⟩
def dSs(s:dSt C r)(κ:Kn)(l:List Stmt):Option (Pk SF (SsP C r κ l)):=l.rec (some ⟨sK .next,λ_ _=>SVs.nil⟩) λe es ih=>bd (s κ e) λf h=>bd ih λg hs=>some ⟨aA f g,λ_ k=>SVs.cons (h k) (hs k)⟩
def dS1(D:DX C)(s:dSt C r):dSt C r:=λκ st=>
 orE (onN st.ctorIdx 5 (λq=>Stmt.Assign.elim st q λts e pos=>ts.casesOn none λt ts=>orE
  (ts.casesOn (onN t.ctorIdx 23 (λq=>Expr.Name.elim t q λx p=>dAn D (dE D 12) κ x p e pos) <| orE
   (onN t.ctorIdx 25 (λq=>Expr.Tuple.elim t q λts n p=>onN e.ctorIdx 25 (λq=>Expr.Tuple.elim e q λvs m q=>dAt2 D (dE D 12) κ ts vs n m p q pos) none) none) <|
   dAg D (dE D 12) κ t e pos) λ_ _=>none) <|
  ts.casesOn none λt2 ts=>dA2 D (dE D 12) κ t t2 ts e pos) <|
 onN st.ctorIdx 24 (λq=>Stmt.Expr.elim st q λe p=>orE
  (onN e.ctorIdx 19 (λq=>Expr.Constant.elim e q λc a b=>onN c.ctorIdx 5 (λq=>Const.str.elim (motive:=λc=>Option (Pk SF (SP C r κ (.Expr (.Constant c a b) p)))) c q λx=>some ⟨sK .next,λ_ k=>SV.doc k.ia rfl⟩) none) none) <|
  bd (dE D 12 κ e) λf h=>onF (e.ctorIdx.beq 8) λhl=>some ⟨aS f,λ_ k=>SV.expr (h.ok k) k.ia (h.pf.sw hl _ _ _)⟩) <|
 onN st.ctorIdx 12 (λq=>Stmt.If.elim st q λt a b p=>bd (dTi D 9 (dE D 12) κ t) λc hc=>bd (dSs s κ b) λg h2=>orE (bd (dSs s κ a) λf h=>some ⟨sIf c f g,λ_ k=>SV.ite (hc k) (h k) (h2 k)⟩) <| some ⟨sIf c sNo g,λ_ k=>SV.ite (hc k) SVs.no (h2 k)⟩) <|
 onN st.ctorIdx 9 (λq=>Stmt.For.elim st q λt i b o p=>o.casesOn ((dIi D (dE D 12) κ i).rec none λR=>bd (dA D (dE D 12) κ 4 t) λg hg=>bd (dSs s κ b) λf h=>onB (R.b || t.ctorIdx.beq 25) λht=>some ⟨eY R.K R.fi g f,λ_ k=>SV.for_ (R.ok k) (hg.ok k) (h k) ⟨R.tg _ ht,R.nd⟩ (R.fold _)⟩) λ_ _=>none) <|
 onN st.ctorIdx 3 (λq=>Stmt.Return.elim st q λe p=>e.casesOn (some ⟨sK (.ret .none),λ_ _=>SV.ret0⟩) λe=>bd (dE D 12 κ e) λf h=>some ⟨f7 f,λ_ k=>SV.ret (h.ok k)⟩) <|
 onN st.ctorIdx 11 (λq=>Stmt.While.elim st q λt b o p=>o.casesOn (bd (dTi D 9 (dE D 12) κ t) λc hc=>bd (dSs s κ b) λf h=>some ⟨iY c f,λ_ k=>SV.while_ (hc k) (h k)⟩) λ_ _=>none) <|
 onN st.ctorIdx 7 (λq=>Stmt.AugAssign.elim st q λt op e pos=>onN op.ctorIdx 0 (λq=>Operator.Add.elim (motive:=λop=>Option (Pk SF (SP C r κ (.AugAssign t op e pos)))) op q <| onN t.ctorIdx 23 (λq=>Expr.Name.elim t q λx p=>bd (dE D 12 κ e) λf h=>onB (stK κ x) λhs=>onF (x==("__classdict__" :Str)) λhc=>some ⟨wH x mU f,λ_ k=>SV.aug (h.ok k) OpR.iadd (k.s_ hs) hc⟩) none) none) <|
 onN st.ctorIdx 25 (λq=>Stmt.Pass.elim st q λp=>some ⟨sK .next,λ_ _=>SV.pass⟩) <|
 onN st.ctorIdx 26 (λq=>Stmt.Break.elim st q λp=>some ⟨sK .brk,λ_ _=>SV.brk⟩) <|
 onN st.ctorIdx 27 (λq=>Stmt.Continue.elim st q λp=>some ⟨sK .cont,λ_ _=>SV.cont⟩) none) (D.xs (dE D 12) κ st)
def dS(D:DX C)(n:Nat):dSt C r:=n.rec (λ_ _=>none) λ_ ih=>dS1 D ih
theorem dS_ok(D:DX C){env:Env}{st:Stmt}{f:SF}(k:env.scope.kind= .function)(h:gtO (dS (r:=r) D 9 env.kindOf st)=some f):SV C r env st f:=rF h ⟨rfl,k⟩
theorem cR(D:DX C){env:Env}{st:List Stmt}{f:SF}(k:env.scope.kind= .function)(h:gtO (dSs (r:=r) (dS D 9) env.kindOf st)=some f):SVs C r env st f:=rF h ⟨rfl,k⟩
theorem aBx(D:DX C){env:Env}{e:Expr}{f:EF}(k:env.scope.kind= .function)(h:gtO (dE (r:=r) D 12 env.kindOf e)=some f):EV C r env e f:=(rF h).ok ⟨rfl,k⟩
theorem aBw(D:DX C){env:Env}{e:Expr}{f:TF}(k:env.scope.kind= .function)(h:gtO (dTi (r:=r) D 9 (dE D 12) env.kindOf e)=some f):TV C r env e f:=rF h ⟨rfl,k⟩
theorem dA_ok(D:DX C){env:Env}{e:Expr}{f:AF}(k:env.scope.kind= .function)(h:gtO (dA (r:=r) D (dE D 12) env.kindOf 4 e)=some f):AV C r env e f:=(rF h).ok ⟨rfl,k⟩
end
section
variable {C:Cx}{r:Nat}
def xIfE(d:dEt C r)(t:dTt C r)(κ:Kn)(e:Expr):Option (RE C r κ e):=onN e.ctorIdx 5 (λq=>Expr.IfExp.elim e q λc a b p=>bd (t κ c) λg h0=>bd (d κ a) λf h=>bd (d κ b) λf2 h2=>
 some ⟨eIf g f f2,λ_ k=>EV.ifExp (h0 k) (h.ok k) (h2.ok k),eR rfl⟩) none
def pP(C:Cx)(r:Nat)(κ:Kn)(o:Option Expr)(f:EF):Prop:=∀ ⦃env:Env⦄,KE κ env->PV C r env o f
def dPi(d:dEt C r)(κ:Kn)(o:Option Expr):Option (Pk EF (pP C r κ o)):=o.casesOn (some ⟨eK .none,λ_ _=>PV.none⟩) λe=>bd (d κ e) λf h=>some ⟨f,λ_ k=>PV.some (h.ok k)⟩
theorem pfS{a s:Expr}{p:Pos}:Pf (.Subscript a s p):=eR rfl
def xSl(d:dEt C r)(κ:Kn)(e:Expr):Option (RE C r κ e):=onN e.ctorIdx 21 (λq=>Expr.Subscript.elim e q λa s p=>bd (d κ a) λf h=>onB (a.ctorIdx.beq 23) λhn=>onN s.ctorIdx 26 (λq=>Expr.Slice.elim s q λl u st q=>
 bd (dPi d κ l) λf1 h1=>bd (dPi d κ u) λf2 h2=>st.casesOn (motive:=λst=>Option (RE C r κ (.Subscript a (.Slice l u st q) p))) (some ⟨sB f f1 f2 (eK .none),λ_ k=>EV.slice (h.ok k) (h1 k) (h2 k) (h.pf.lg hn),pfS⟩) λst=>bd (d κ st) λf3 h3=>some ⟨sB f f1 f2 f3,λ_ k=>EV.slice3 (h.ok k) (h1 k) (h2 k) (h3.ok k) (h.pf.lg hn),pfS⟩) none) none
end
section
variable {C:Cx}(X:XX C)(P:Params)(L:Addr)
theorem XX.mf(X:XX C)(h:Heap)(hk:∀ b o,C.base.heap.get? b=some o->h.get? b=some o):qT C.M h:=mfacts X.kc X.km.bases (X.kc.mem.keeps hk)
def ktL:Kti C:=⟨cU C,iL,IV.list,gR.list,λ_=>trivial⟩
def ktR:Kti C:=⟨hV C,iR,IV.range,gR.range,λ_=>trivial⟩
def kt0(e:Expr):Kti C:=(onN e.ctorIdx 23 (λq=>Expr.Name.elim e q λx _=>onS x "inner" (λ_=>some ktR) none) <| onN e.ctorIdx 16 (λq=>Expr.Call.elim e q λfn _ _ _=>onN fn.ctorIdx 23 (λq=>Expr.Name.elim fn q λx _=>onS x "range" (λ_=>some ktR) none) none) none).getD ktL
theorem pfN{x:Str}{p:Pos}:Pf (.Name x p):=eR rfl
def XX.xn(X:XX C){r:Nat}(d:dEt C r)(t:dTt C r)(κ:Kn)(e:Expr):Option (RE C r κ e):=onN e.ctorIdx 16 (λq=>Expr.Call.elim e q λfn as ks p=>ks.casesOn (onN fn.ctorIdx 20 (λq=>Expr.Attribute.elim fn q λo m ap=>onN o.ctorIdx 23 (λq=>Expr.Name.elim o q λy np=>onS y "tuple" (λht=>onS m "__new__" (λhm=>
  onB (glK κ "tuple") λhg=>onB (ap.endLine==p.line) λhk=>onB (as.length.blt 30) λhl=>bd (dEs d κ as) λg hs=>some ⟨vI g,λ_ k=>by subst ht hm;exact EV.tnew X.mf X.g_tuple (k.gl hg).1 (hs.ok k) (hs.fl _) (mshape pfN rfl hs hl hk),pfC⟩) none) none) none) none) λ_ _=>none) none
def fn0(x:Str){v:Value}{r0:Nat}{g:CF}(cv:CV C r0 v g)(gl:Glo C x v)(n:Nat:=99):Fn C:=⟨x,n,v,r0,g,cv,gl⟩
def me0(x:Str){a:Addr}{r0:Nat}{g:CF}(cv:CV C r0 (.ref a) g)(hm:eA.contains (x,a)=true)(n:Nat:=99):Mth C:=⟨x,n,a,r0,g,cv,hm⟩
def XX.D2(X:XX C)(T:List (Fn C)):DX C:=⟨X.smc,T,[],kt0,_,X.km,X.g_enumerate,X.sys,X.xn,λ_ _ _=>none,λ_ _ _=>none⟩
def XX.Tb(X:XX C):List (Fn C):=[fn0 (r0:=0) "len" (CV.lenM X.km) X.g_len,fn0 (r0:=0) "range" CV.range X.g_range,fn0 (r0:=0) "max" CV.max X.g_max,fn0 (r0:=0) "min" CV.min X.g_min,fn0 (r0:=0) "set" CV.set X.g_set]
def aEd(X:XX C):SF:=(sK .next)
def aEc(X:XX C):SF:=(f7 (vI (esC (eN "_cls") (esC (aW (esC (eN "a") (esC (eN "b") (esC (eN "size") esN)))) esN))))
def f_new(X:XX C):SF:=(aA (aEd X) (aA (aEc X) (sK .next)))
theorem sv_new:SVs C 1 (callEnvC (aY (o82 P)) L 82) (cL (stB 3 4)) (f_new X):=cR (X.D2 []) rfl ⋯
def aBd(X:XX C):SF:=(sK .next)
def aBc(X:XX C):SF:=(aZ "result" (vI (esC (eN "cls") (esC (eN "iterable") esN))))
def aBb(X:XX C):SF:=(sIf (tE (aB (bG not) (aM d5 (esC (eN "result") esN)) (eK (.int 3)))) sNo (sK .next))
def aBa(X:XX C):SF:=(f7 (eN "result"))
def f_make(X:XX C):SF:=(aA (aBd X) (aA (aBc X) (aA (aBb X) (aA (aBa X) (sK .next)))))
theorem aC2:SVs C 1 (callEnvC (aY (o89 P)) L 89) (cL (stB 3 5)) (f_make X):=cR (X.D2 X.Tb) rfl ⋯
theorem XX.newM(X:XX C):NewM C 2:=by
 intro A s ρ H a b c i j k hr S ra rb rc
 refine iC X.d_new ⋯ X.b_new (λ_ _=>.nil) (cV ⋯) (λL=>sv_new X X.w.params L) hr S (.cons (.raw _) (.cons ra (.cons rb (.cons rc .nil)))) ⟨rfl,?_⟩
 exact(show _=(3<100/\(V.mat i j k=V.mat i j k/\H=H)) by rfl').mpr ⟨by decide,rfl,rfl⟩
theorem XX.makeM(X:XX C):mQ C 2:=by
 intro A s ρ H a i j k hr S ra
 refine iC X.d_make ⋯ X.b_make (λ_ _=>.nil) (cV ⋯) (λL=>aC2 X X.w.params L) hr S (.cons (.raw _) (.cons ra .nil)) ⟨rfl,?_⟩
 exact(show _=(V.mat i j k=V.mat i j k/\H=H) by rfl').mpr ⟨rfl,rfl⟩
theorem XX.cv_Match(X:XX C):CV C 3 (.ref aE) tX:=CV.mat X.kc X.newM
def XX.xm(X:XX C){r:Nat}(d:dEt C r)(t:dTt C r)(κ:Kn)(e:Expr):Option (RE C r κ e):=r.casesOn (motive:=λr=>dEt C r->Option (RE C r κ e)) (λ_=>none) (λr d=>onN e.ctorIdx 16 (λq=>Expr.Call.elim e q λfn as ks p=>ks.casesOn (orE
 (onN fn.ctorIdx 20 (λq=>Expr.Attribute.elim fn q λo m ap=>onS m "sort" (λhm=>as.casesOn (bd (d κ o) λf h=>onF (o.ctorIdx.beq 16) λhc=>onB (ap.endLine==p.line) λhk=>
  some ⟨aBr f,λ_ k=>by subst hm;exact EV.sort X.km (h.ok k) (mshape h.pf hc (es0 (C:=C) (r:=r) (κ:=κ)) rfl hk),pfC⟩) λ_ _=>none) none) none) <|
 onN fn.ctorIdx 23 (λq=>Expr.Name.elim fn q λl p1=>onS l "list" (λhl=>as.casesOn none λa z=>z.casesOn (onN a.ctorIdx 16 (λq=>Expr.Call.elim a q λg bs ks p5=>
  ks.casesOn (onN g.ctorIdx 23 (λq=>Expr.Name.elim g q λm p2=>onS m "map" (λhm=>bs.casesOn none λb z=>z.casesOn none λe z=>z.casesOn (onN b.ctorIdx 20 (λq=>Expr.Attribute.elim b q λo x p4=>onS x "_make" (λhx=>onN o.ctorIdx 23 (λq=>Expr.Name.elim o q λt p3=>onS t "Match" (λht=>
    onB (ble 3 r) λhr=>onB (glK κ "list") λg1=>onB (glK κ "map") λg2=>onB (glK κ "Match") λg3=>bd (d κ e) λf h=>some ⟨eLM (pK C 2 X.makeM) (λi=>(i,0)) f,λ_ k=>by
     subst hl hm ht hx
     exact EV.listMap X.kc X.makeM (le_of_ble_eq_true hr) (h.ok k) X.g_list X.g_map X.g_Match (k.gl g1).1 (k.gl g2).1 (k.gl g3).1 rfl rfl (h.pf.star _ _) (λ_=>rfl) (λ_=>by show(false || (backTo _ (starEach [e] _)).any (·.1))=false;rw[h.pf.star];rfl) rfl (λ_ _=>rfl),pfC⟩) none) none) none) none) λ_ _=>none) none) none) λ_ _=>none) none) λ_ _=>none) none) none) λ_ _=>none) none) d
def XX.D0(X:XX C)(M:List (Mth C)):DX C:=⟨X.smc,fn0 "Match" X.cv_Match X.g_Match::X.Tb,M,kt0,_,X.km,X.g_enumerate,X.sys,X.xm,λ_ _ _=>none,λ_ _ _=>none⟩
def qK(X:XX C):SF:=(sK .next)
def qJ(X:XX C):SF:=(sIf (tE (aB (oIs id) (eN "a") (dY "a" (eN "self")))) (aA (sK (.ret .none)) (sK .next)) (sK .next))
def qI(X:XX C):SF:=(cC (eN "a") (d6 "a" (eN "self")))
def qH(X:XX C):SF:=(cC (eK .none) (fM (d6 "matching_blocks" (eN "self")) (d6 "opcodes" (eN "self"))))
def mH(X:XX C):SF:=(aA (qK X) (aA (qJ X) (aA (qI X) (aA (qH X) (sK .next)))))
theorem q6:SVs C 1 (callEnvC (aY (y7 P)) L 174) (cL (stB 5 3)) (mH X):=cR (X.D0 []) rfl ⋯
def gQ(X:XX C):CF:=iK ["self","a"] [] (mH X)
theorem sF(X:XX C):CV C 2 (.ref 174) (gQ X):=CV.def_ X.d_set_seq1 ⋯ X.b_set_seq1 (λ_ _=>.nil) (cV ⋯) (λL=>q6 X X.w.params L)
def XX.M_set_seq1(X:XX C):List (Mth C):=me0 "set_seq1" (sF X) rfl::[]
def r8(X:XX C):SF:=(aZ "b" (dY "b" (eN "self")))
def r7(X:XX C):SF:=(cC n7 (fM (d6 "b2j" (eN "self")) (aN "b2j")))
def r6(X:XX C):SF:=(eY (l8 C) (iL (eN "b")) (b3 2 (asC (aN "i") (asC (aN "elt") asN))) (aA (aZ "indices" (vJ (eN "b2j") (eN "elt") (d9 esN))) (aA (aS (bZ (eN "indices") (eN "i"))) (sK .next))))
def kT(X:XX C):SF:=(cC (aM cSet esN) (fM (d6 "bjunk" (eN "self")) (aN "junk")))
def kS(X:XX C):SF:=(aZ "isjunk" (dY "isjunk" (eN "self")))
def kR(X:XX C):SF:=(sIf (tE (eN "isjunk")) sNo (sK .next))
def kQ(X:XX C):SF:=(cC (aM cSet esN) (fM (d6 "bpopular" (eN "self")) (aN "popular")))
def kO(X:XX C):SF:=(aZ "n" (aM d5 (esC (eN "b") esN)))
def kN(X:XX C):SF:=(sIf (bV (tE (dY "autojunk" (eN "self"))) (bV (tE (aB (bC λx y=>decide (x>=y)) (eN "n") (eK (.int 200)))) (tK true))) sNo (sK .next))
def n5(X:XX C):SF:=(aA (r8 X) (aA (r7 X) (aA (r6 X) (aA (kT X) (aA (kS X) (aA (kR X) (aA (kQ X) (aA (kO X) (aA (kN X) (sK .next))))))))))
theorem sQ:SVs C 1 (callEnvC (aY (y5 P)) L 188) (cL (stB 5 5)) (n5 X):=cR (X.D0 X.M_set_seq1) rfl ⋯
def eP(X:XX C):CF:=iK ["self"] [] (n5 X)
theorem tS(X:XX C):CV C 2 (.ref 188) (eP X):=CV.def_ X.d_chain_b ⋯ X.b_chain_b (λ_ _=>.nil) (cV ⋯) (λL=>sQ X X.w.params L)
def XX.M_chain_b(X:XX C):List (Mth C):=me0 "_SequenceMatcher__chain_b" (tS X) rfl::X.M_set_seq1
def qG(X:XX C):SF:=(sK .next)
def qF(X:XX C):SF:=(sIf (tE (aB (oIs id) (eN "b") (dY "b" (eN "self")))) (aA (sK (.ret .none)) (sK .next)) (sK .next))
def qE(X:XX C):SF:=(cC (eN "b") (d6 "b" (eN "self")))
def qD(X:XX C):SF:=(cC (eK .none) (fM (d6 "matching_blocks" (eN "self")) (d6 "opcodes" (eN "self"))))
def qC(X:XX C):SF:=(cC (eK .none) (d6 "fullbcount" (eN "self")))
def qB(X:XX C):SF:=(aS (eF (eP X) (eN "self") esN))
def mG(X:XX C):SF:=(aA (qG X) (aA (qF X) (aA (qE X) (aA (qD X) (aA (qC X) (aA (qB X) (sK .next)))))))
theorem q4:SVs C 2 (callEnvC (aY (y6 P)) L 181) (cL (stB 5 4)) (mG X):=cR (X.D0 X.M_chain_b) rfl ⋯
def gP(X:XX C):CF:=iK ["self","b"] [] (mG X)
theorem sE(X:XX C):CV C 3 (.ref 181) (gP X):=CV.def_ X.d_set_seq2 ⋯ X.b_set_seq2 (λ_ _=>.nil) (cV ⋯) (λL=>q4 X X.w.params L)
def XX.M_set_seq2(X:XX C):List (Mth C):=me0 "set_seq2" (sE X) rfl::X.M_chain_b
def qA(X:XX C):SF:=(sK .next)
def p9(X:XX C):SF:=(aS (eF (gQ X) (eN "self") (esC (eN "a") esN)))
def pY(X:XX C):SF:=(aS (eF (gP X) (eN "self") (esC (eN "b") esN)))
def mF(X:XX C):SF:=(aA (qA X) (aA (p9 X) (aA (pY X) (sK .next))))
theorem qZ:SVs C 3 (callEnvC (aY (y8 P)) L 167) (cL (stB 5 2)) (mF X):=cR (X.D0 X.M_set_seq2) rfl ⋯
def gO(X:XX C):CF:=iK ["self","a","b"] [] (mF X)
theorem sD(X:XX C):CV C 4 (.ref 167) (gO X):=CV.def_ X.d_set_seqs ⋯ X.b_set_seqs (λ_ _=>.nil) (cV ⋯) (λL=>qZ X X.w.params L)
def XX.M_set_seqs(X:XX C):List (Mth C):=me0 "set_seqs" (sD X) rfl::X.M_set_seq2
def gE(X:XX C):SF:=(sK .next)
def cI(X:XX C):SF:=(cC (aW (esC (dY "a" (eN "self")) (esC (dY "b" (eN "self")) (esC (dY "b2j" (eN "self")) (esC (eBd .scon okS (dY "bjunk" (eN "self"))) esN))))) (b3 4 (asC (aN "a") (asC (aN "b") (asC (aN "b2j") (asC (aN "isbjunk") asN))))))
def dW(X:XX C):SF:=(sIf (tE (aB (oIs id) (eN "ahi") (eK .none))) (aA (aZ "ahi" (aM d5 (esC (eN "a") esN))) (sK .next)) (sK .next))
def dV(X:XX C):SF:=(sIf (tE (aB (oIs id) (eN "bhi") (eK .none))) (aA (aZ "bhi" (aM d5 (esC (eN "b") esN))) (sK .next)) (sK .next))
def dU(X:XX C):SF:=(cM ["besti","bestj","bestsize"] (aW (esC (eN "alo") (esC (eN "blo") (esC (eK (.int 0)) esN)))))
def dT(X:XX C):SF:=(aZ "j2len" n7)
def dR(X:XX C):SF:=(aZ "nothing" (d9 esN))
def dQ(X:XX C):SF:=(eY (hV C) (iR (aM cY (esC (eN "alo") (esC (eN "ahi") esN)))) (aN "i") (aA (aZ "j2lenget" (eBd .dget okD (eN "j2len"))) (aA (aZ "newj2len" n7) (aA (eY (cU C) (iL (eGet (eN "b2j") (aB aR (eN "a") (eN "i")) (eN "nothing"))) (aN "j") (aA (sIf (tE (aB (bC λx y=>decide (x<y)) (eN "j") (eN "blo"))) (aA (sK .cont) (sK .next)) (sK .next)) (aA (sIf (tE (aB (bC λx y=>decide (x>=y)) (eN "j") (eN "bhi"))) (aA (sK .brk) (sK .next)) (sK .next)) (aA (cC (aB aI (eCv (eN "j2lenget") (esC (aB cE (eN "j") (eK (.int 1))) (esC (eK (.int 0)) esN))) (eK (.int 1))) (fM (aN "k") (qS (eN "newj2len") (eN "j")))) (aA (sIf (tE (aB (bC λx y=>decide (x>y)) (eN "k") (eN "bestsize"))) (aA (cM ["besti","bestj","bestsize"] (aW (esC (aB aI (aB cE (eN "i") (eN "k")) (eK (.int 1))) (esC (aB aI (aB cE (eN "j") (eN "k")) (eK (.int 1))) (esC (eN "k") esN))))) (sK .next)) (sK .next)) (sK .next)))))) (aA (aZ "j2len" (eN "newj2len")) (sK .next))))))
def dN(X:XX C):SF:=(iY (bV (tE (aB (bC λx y=>decide (x>y)) (eN "besti") (eN "alo"))) (bV (tE (aB (bC λx y=>decide (x>y)) (eN "bestj") (eN "blo"))) (bV (v9 (tE (eCv (eN "isbjunk") (esC (aB aR (eN "b") (aB cE (eN "bestj") (eK (.int 1)))) esN)))) (bV (tE (aB (bG id) (aB aR (eN "a") (aB cE (eN "besti") (eK (.int 1)))) (aB aR (eN "b") (aB cE (eN "bestj") (eK (.int 1)))))) (tK true))))) (aA (cM ["besti","bestj","bestsize"] (aW (esC (aB cE (eN "besti") (eK (.int 1))) (esC (aB cE (eN "bestj") (eK (.int 1))) (esC (aB aI (eN "bestsize") (eK (.int 1))) esN))))) (sK .next)))
def dM(X:XX C):SF:=(iY (bV (tE (aB (bC λx y=>decide (x<y)) (aB aI (eN "besti") (eN "bestsize")) (eN "ahi"))) (bV (tE (aB (bC λx y=>decide (x<y)) (aB aI (eN "bestj") (eN "bestsize")) (eN "bhi"))) (bV (v9 (tE (eCv (eN "isbjunk") (esC (aB aR (eN "b") (aB aI (eN "bestj") (eN "bestsize"))) esN)))) (bV (tE (aB (bG id) (aB aR (eN "a") (aB aI (eN "besti") (eN "bestsize"))) (aB aR (eN "b") (aB aI (eN "bestj") (eN "bestsize"))))) (tK true))))) (aA (wH "bestsize" mU (eK (.int 1))) (sK .next)))
def dD(X:XX C):SF:=(iY (bV (tE (aB (bC λx y=>decide (x>y)) (eN "besti") (eN "alo"))) (bV (tE (aB (bC λx y=>decide (x>y)) (eN "bestj") (eN "blo"))) (bV (tE (eCv (eN "isbjunk") (esC (aB aR (eN "b") (aB cE (eN "bestj") (eK (.int 1)))) esN))) (bV (tE (aB (bG id) (aB aR (eN "a") (aB cE (eN "besti") (eK (.int 1)))) (aB aR (eN "b") (aB cE (eN "bestj") (eK (.int 1)))))) (tK true))))) (aA (cM ["besti","bestj","bestsize"] (aW (esC (aB cE (eN "besti") (eK (.int 1))) (esC (aB cE (eN "bestj") (eK (.int 1))) (esC (aB aI (eN "bestsize") (eK (.int 1))) esN))))) (sK .next)))
def dB(X:XX C):SF:=(iY (bV (tE (aB (bC λx y=>decide (x<y)) (aB aI (eN "besti") (eN "bestsize")) (eN "ahi"))) (bV (tE (aB (bC λx y=>decide (x<y)) (aB aI (eN "bestj") (eN "bestsize")) (eN "bhi"))) (bV (tE (eCv (eN "isbjunk") (esC (aB aR (eN "b") (aB aI (eN "bestj") (eN "bestsize"))) esN))) (bV (tE (aB (bG id) (aB aR (eN "a") (aB aI (eN "besti") (eN "bestsize"))) (aB aR (eN "b") (aB aI (eN "bestj") (eN "bestsize"))))) (tK true))))) (aA (aZ "bestsize" (aB aI (eN "bestsize") (eK (.int 1)))) (sK .next)))
def fU(X:XX C):SF:=(f7 (aM tX (esC (eN "besti") (esC (eN "bestj") (esC (eN "bestsize") esN)))))
def cQ(X:XX C):SF:=(aA (gE X) (aA (cI X) (aA (dW X) (aA (dV X) (aA (dU X) (aA (dT X) (aA (dR X) (aA (dQ X) (aA (dN X) (aA (dM X) (aA (dD X) (aA (dB X) (aA (fU X) (sK .next))))))))))))))
theorem g6:SVs C 3 (callEnvC (aY (y4 P)) L 196) (cL (stB 5 6)) (cQ X):=cR (X.D0 X.M_set_seqs) rfl ⋯
def bJ(X:XX C):CF:=iK ["self","alo","ahi","blo","bhi"] [] (cQ X)
theorem g8(X:XX C):CV C 4 (.ref 196) (bJ X):=CV.def_ X.d_find_longest_match ⋯ X.b_find_longest_match (λ_ _=>.nil) (cV ⋯) (λL=>g6 X X.w.params L)
def XX.M_find_longest_match(X:XX C):List (Mth C):=me0 "find_longest_match" (g8 X) rfl::X.M_set_seqs
def fT(X:XX C):SF:=(sK .next)
def fS(X:XX C):SF:=(sIf (tE (aB (oIs not) (dY "matching_blocks" (eN "self")) (eK .none))) (aA (f7 (dY "matching_blocks" (eN "self"))) (sK .next)) (sK .next))
def c9(X:XX C):SF:=(cM ["la","lb"] (aW (esC (aM d5 (esC (dY "a" (eN "self")) esN)) (esC (aM d5 (esC (dY "b" (eN "self")) esN)) esN))))
def bQ(X:XX C):SF:=(aZ "queue" (d9 (esC (aW (esC (eK (.int 0)) (esC (eN "la") (esC (eK (.int 0)) (esC (eN "lb") esN))))) esN)))
def bN(X:XX C):SF:=(aZ "matching_blocks" (d9 esN))
def bM(X:XX C):SF:=(iY (tE (eN "queue")) (aA (cC (ePop (eN "queue")) (b3 4 (asC (aN "alo") (asC (aN "ahi") (asC (aN "blo") (asC (aN "bhi") asN)))))) (aA (cC (eF (bJ X) (eN "self") (esC (eN "alo") (esC (eN "ahi") (esC (eN "blo") (esC (eN "bhi") esN))))) (fM (b3 3 (asC (aN "i") (asC (aN "j") (asC (aN "k") asN)))) (aN "x"))) (aA (sIf (tE (eN "k")) (aA (aS (bZ (eN "matching_blocks") (eN "x"))) (aA (sIf (bV (tE (aB (bC λx y=>decide (x<y)) (eN "alo") (eN "i"))) (bV (tE (aB (bC λx y=>decide (x<y)) (eN "blo") (eN "j"))) (tK true))) (aA (aS (bZ (eN "queue") (aW (esC (eN "alo") (esC (eN "i") (esC (eN "blo") (esC (eN "j") esN))))))) (sK .next)) (sK .next)) (aA (sIf (bV (tE (aB (bC λx y=>decide (x<y)) (aB aI (eN "i") (eN "k")) (eN "ahi"))) (bV (tE (aB (bC λx y=>decide (x<y)) (aB aI (eN "j") (eN "k")) (eN "bhi"))) (tK true))) (aA (aS (bZ (eN "queue") (aW (esC (aB aI (eN "i") (eN "k")) (esC (eN "ahi") (esC (aB aI (eN "j") (eN "k")) (esC (eN "bhi") esN))))))) (sK .next)) (sK .next)) (sK .next)))) (sK .next)) (sK .next)))))
def c8(X:XX C):SF:=(aS (aBr (eN "matching_blocks")))
def c7(X:XX C):SF:=(cC (eK (.int 0)) (fM (aN "i1") (fM (aN "j1") (aN "k1"))))
def c6(X:XX C):SF:=(aZ "non_adjacent" (d9 esN))
def cD(X:XX C):SF:=(eY (cU C) (iL (eN "matching_blocks")) (b3 3 (asC (aN "i2") (asC (aN "j2") (asC (aN "k2") asN)))) (aA (sIf (bV (tE (aB (bG id) (aB aI (eN "i1") (eN "k1")) (eN "i2"))) (bV (tE (aB (bG id) (aB aI (eN "j1") (eN "k1")) (eN "j2"))) (tK true))) (aA (wH "k1" mU (eN "k2")) (sK .next)) (aA (sIf (tE (eN "k1")) (aA (aS (bZ (eN "non_adjacent") (aW (esC (eN "i1") (esC (eN "j1") (esC (eN "k1") esN)))))) (sK .next)) (sK .next)) (aA (cM ["i1","j1","k1"] (aW (esC (eN "i2") (esC (eN "j2") (esC (eN "k2") esN))))) (sK .next)))) (sK .next)))
def cA(X:XX C):SF:=(sIf (tE (eN "k1")) (aA (aS (bZ (eN "non_adjacent") (aW (esC (eN "i1") (esC (eN "j1") (esC (eN "k1") esN)))))) (sK .next)) (sK .next))
def bH(X:XX C):SF:=(aS (bZ (eN "non_adjacent") (aW (esC (eN "la") (esC (eN "lb") (esC (eK (.int 0)) esN))))))
def b9(X:XX C):SF:=(cC (eLM (pK C 2 X.makeM) (λi=>(i,0)) (eN "non_adjacent")) (d6 "matching_blocks" (eN "self")))
def b8(X:XX C):SF:=(f7 (dY "matching_blocks" (eN "self")))
def d4(X:XX C):SF:=(aA (fT X) (aA (fS X) (aA (c9 X) (aA (bQ X) (aA (bN X) (aA (bM X) (aA (c8 X) (aA (c7 X) (aA (c6 X) (aA (cD X) (aA (cA X) (aA (bH X) (aA (b9 X) (aA (b8 X) (sK .next)))))))))))))))
theorem fY:SVs C 4 (callEnvC (aY (y1 P)) L 203) (cL (stB 5 7)) (d4 X):=cR (X.D0 X.M_find_longest_match) rfl ⋯
def aT(X:XX C):CF:=iK ["self"] [] (d4 X)
theorem dZ(X:XX C):CV C 5 (.ref 203) (aT X):=CV.def_ X.d_get_matching_blocks ⋯ X.b_get_matching_blocks (λ_ _=>.nil) (cV ⋯) (λL=>fY X X.w.params L)
def XX.M_get_matching_blocks(X:XX C):List (Mth C):=me0 "get_matching_blocks" (dZ X) rfl::X.M_find_longest_match
def lE(X:XX C):SF:=(sK .next)
def lD(X:XX C):SF:=(sIf (tE (aB (oIs not) (dY "opcodes" (eN "self")) (eK .none))) (aA (f7 (dY "opcodes" (eN "self"))) (sK .next)) (sK .next))
def gX(X:XX C):SF:=(cC (eK (.int 0)) (fM (aN "i") (aN "j")))
def gW(X:XX C):SF:=(cC (d9 esN) (fM (d6 "opcodes" (eN "self")) (aN "answer")))
def gV(X:XX C):SF:=(eY (cU C) (iL (eF (aT X) (eN "self") esN)) (b3 3 (asC (aN "ai") (asC (aN "bj") (asC (aN "size") asN)))) (aA (aZ "tag" (eK (.str ""))) (aA (sIf (bV (tE (aB (bC λx y=>decide (x<y)) (eN "i") (eN "ai"))) (bV (tE (aB (bC λx y=>decide (x<y)) (eN "j") (eN "bj"))) (tK true))) (aA (aZ "tag" (eK (.str "replace"))) (sK .next)) (aA (sIf (tE (aB (bC λx y=>decide (x<y)) (eN "i") (eN "ai"))) (aA (aZ "tag" (eK (.str "delete"))) (sK .next)) (aA (sIf (tE (aB (bC λx y=>decide (x<y)) (eN "j") (eN "bj"))) (aA (aZ "tag" (eK (.str "insert"))) (sK .next)) (sK .next)) (sK .next))) (sK .next))) (aA (sIf (tE (eN "tag")) (aA (aS (bZ (eN "answer") (aW (esC (eN "tag") (esC (eN "i") (esC (eN "ai") (esC (eN "j") (esC (eN "bj") esN)))))))) (sK .next)) (sK .next)) (aA (cM ["i","j"] (aW (esC (aB aI (eN "ai") (eN "size")) (esC (aB aI (eN "bj") (eN "size")) esN)))) (aA (sIf (tE (eN "size")) (aA (aS (bZ (eN "answer") (aW (esC (eK (.str "equal")) (esC (eN "ai") (esC (eN "i") (esC (eN "bj") (esC (eN "j") esN)))))))) (sK .next)) (sK .next)) (sK .next)))))))
def gU(X:XX C):SF:=(f7 (eN "answer"))
def iT(X:XX C):SF:=(aA (lE X) (aA (lD X) (aA (gX X) (aA (gW X) (aA (gV X) (aA (gU X) (sK .next)))))))
theorem lQ:SVs C 5 (callEnvC (aY (yZ P)) L 210) (cL (stB 5 8)) (iT X):=cR (X.D0 X.M_get_matching_blocks) rfl ⋯
def cB(X:XX C):CF:=iK ["self"] [] (iT X)
theorem iD(X:XX C):CV C 6 (.ref 210) (cB X):=CV.def_ X.d_get_opcodes ⋯ X.b_get_opcodes (λ_ _=>.nil) (cV ⋯) (λL=>lQ X X.w.params L)
def XX.M_get_opcodes(X:XX C):List (Mth C):=me0 "get_opcodes" (iD X) rfl::X.M_get_matching_blocks
def aBi(X:XX C):SF:=(sK .next)
def aBh(X:XX C):SF:=(cC (eN "isjunk") (d6 "isjunk" (eN "self")))
def aBg(X:XX C):SF:=(cC (eK .none) (fM (d6 "a" (eN "self")) (d6 "b" (eN "self"))))
def aBf(X:XX C):SF:=(cC (eN "autojunk") (d6 "autojunk" (eN "self")))
def aBe(X:XX C):SF:=(aS (eF (gO X) (eN "self") (esC (eN "a") (esC (eN "b") esN))))
def tM(X:XX C):SF:=(aA (aBi X) (aA (aBh X) (aA (aBg X) (aA (aBf X) (aA (aBe X) (sK .next))))))
theorem uB:SVs C 4 (callEnvC (aY (wK P)) L 160) (cL (stB 5 1)) (tM X):=cR (X.D0 X.M_get_opcodes) rfl ⋯
def aB8(X:XX C):CF:=iK ["self","isjunk","a","b","autojunk"] [.bool true] (tM X)
def qQ(X:XX C):CF:=iK ["self","isjunk","a","b","autojunk"] [] (tM X)
theorem XX.cc_init(X:XX C):CC C 5 (.ref 160) (aB8 X):=λhr S hu e=>iC X.d_init ⋯ X.b_init1 (λ_ _=>.cons (.bool true) .nil) (cV ⋯) (λL=>uB X X.w.params L) hr S hu e
theorem XX.cc_init4(X:XX C):CC C 5 (.ref 160) (qQ X):=λhr S hu e=>iC X.d_init ⋯ X.b_init (λ_ _=>.nil) (cV ⋯) (λL=>uB X X.w.params L) hr S hu e
def XX.c_SM(X:XX C):CF:=cNew (aB8 X)
def XX.c_SM4(X:XX C):CF:=cNew (qQ X)
theorem XX.cv_SM(X:XX C):CV C 6 (.ref dJ) X.c_SM:=CV.sm X.kc X.cc_init
theorem XX.cv_SM4(X:XX C):CV C 6 (.ref dJ) X.c_SM4:=CV.sm X.kc X.cc_init4
def u9(X:XX C):SF:=(sK .next)
def u8(X:XX C):SF:=(aZ "codes" (eF (cB X) (eN "self") esN))
def lK(X:XX C):SF:=(sIf (v9 (tE (eN "codes"))) (aA (aZ "codes" (d9 (esC (aW (esC (eK (.str "equal")) (esC (eK (.int 0)) (esC (eK (.int 1)) (esC (eK (.int 0)) (esC (eK (.int 1)) esN)))))) esN))) (sK .next)) (sK .next))
def lJ(X:XX C):SF:=(sIf (tE (aB (bG id) (aB aR (aB aR (eN "codes") (eK (.int 0))) (eK (.int 0))) (eK (.str "equal")))) (aA (cC (aB aR (eN "codes") (eK (.int 0))) (b3 5 (asC (aN "tag") (asC (aN "i1") (asC (aN "i2") (asC (aN "j1") (asC (aN "j2") asN))))))) (aA (cC (aW (esC (eN "tag") (esC (aM tW (esC (eN "i1") (esC (aB cE (eN "i2") (eN "n")) esN))) (esC (eN "i2") (esC (aM tW (esC (eN "j1") (esC (aB cE (eN "j2") (eN "n")) esN))) (esC (eN "j2") esN)))))) (qS (eN "codes") (eK (.int 0)))) (sK .next))) (sK .next))
def lI(X:XX C):SF:=(sIf (tE (aB (bG id) (aB aR (aB aR (eN "codes") (i8 (eK (.int 1)))) (eK (.int 0))) (eK (.str "equal")))) (aA (cC (aB aR (eN "codes") (i8 (eK (.int 1)))) (b3 5 (asC (aN "tag") (asC (aN "i1") (asC (aN "i2") (asC (aN "j1") (asC (aN "j2") asN))))))) (aA (cC (aW (esC (eN "tag") (esC (eN "i1") (esC (aM jC (esC (eN "i2") (esC (aB aI (eN "i1") (eN "n")) esN))) (esC (eN "j1") (esC (aM jC (esC (eN "j2") (esC (aB aI (eN "j1") (eN "n")) esN))) esN)))))) (qS (eN "codes") (i8 (eK (.int 1))))) (sK .next))) (sK .next))
def pW(X:XX C):SF:=(aZ "nn" (aB aI (eN "n") (eN "n")))
def pU(X:XX C):SF:=(aZ "group" (d9 esN))
def aA3(X:XX C):SF:=(aA (u9 X) (aA (u8 X) (aA (lK X) (aA (lJ X) (aA (lI X) (aA (pW X) (aA (pU X) (sK .next))))))))
theorem gv_pre(X:XX C)(P:Params)(L:Addr):SVs C 6 ((gsh P).envL L) (gsh P).pre (aA3 X):=cR (X.D0 X.M_get_opcodes) rfl ⋯
def g_it(X:XX C):EF:=(eN "codes")
theorem gv_it(X:XX C)(P:Params)(L:Addr):EV C 6 ((gsh P).envL L) (gsh P).iter (g_it X):=aBx (X.D0 X.M_get_opcodes) rfl ⋯
def aA2(X:XX C):AF:=(b3 5 (asC (aN "tag") (asC (aN "i1") (asC (aN "i2") (asC (aN "j1") (asC (aN "j2") asN))))))
theorem gv_tgt(X:XX C)(P:Params)(L:Addr):AV C 6 ((gsh P).envL L) (gsh P).target (aA2 X):=dA_ok (X.D0 X.M_get_opcodes) rfl ⋯
def g_fc(X:XX C):TF:=(bV (tE (aB (bG id) (eN "tag") (eK (.str "equal")))) (bV (tE (aB (bC λx y=>decide (x>y)) (aB cE (eN "i2") (eN "i1")) (eN "nn"))) (tK true)))
theorem gv_fc(X:XX C)(P:Params)(L:Addr):TV C 6 ((gsh P).envL L) (gsh P).cond (g_fc X):=aBw (X.D0 X.M_get_opcodes) rfl ⋯
def g_f1(X:XX C):SF:=(aS (bZ (eN "group") (aW (esC (eN "tag") (esC (eN "i1") (esC (aM jC (esC (eN "i2") (esC (aB aI (eN "i1") (eN "n")) esN))) (esC (eN "j1") (esC (aM jC (esC (eN "j2") (esC (aB aI (eN "j1") (eN "n")) esN))) esN))))))))
theorem gv_f1(X:XX C)(P:Params)(L:Addr):SV C 6 ((gsh P).envL L) (gsh P).s1 (g_f1 X):=dS_ok (X.D0 X.M_get_opcodes) rfl ⋯
def g_fy(X:XX C):EF:=(eN "group")
theorem gv_fy(X:XX C)(P:Params)(L:Addr):EV C 6 ((gsh P).envL L) (gsh P).ye (g_fy X):=aBx (X.D0 X.M_get_opcodes) rfl ⋯
def g_f2(X:XX C):SF:=(aA (aZ "group" (d9 esN)) (aA (cM ["i1","j1"] (aW (esC (aM tW (esC (eN "i1") (esC (aB cE (eN "i2") (eN "n")) esN))) (esC (aM tW (esC (eN "j1") (esC (aB cE (eN "j2") (eN "n")) esN))) esN)))) (sK .next)))
theorem gv_f2(X:XX C)(P:Params)(L:Addr):SVs C 6 ((gsh P).envL L) (gsh P).s2 (g_f2 X):=cR (X.D0 X.M_get_opcodes) rfl ⋯
def g_f3(X:XX C):SF:=(aS (bZ (eN "group") (aW (esC (eN "tag") (esC (eN "i1") (esC (eN "i2") (esC (eN "j1") (esC (eN "j2") esN))))))))
theorem gv_f3(X:XX C)(P:Params)(L:Addr):SV C 6 ((gsh P).envL L) (gsh P).s3 (g_f3 X):=dS_ok (X.D0 X.M_get_opcodes) rfl ⋯
def vA(X:XX C):TF:=(bV (tE (eN "group")) (bV (v9 (bV (tE (aB (bG id) (aM d5 (esC (eN "group") esN)) (eK (.int 1)))) (bV (tE (aB (bG id) (aB aR (aB aR (eN "group") (eK (.int 0))) (eK (.int 0))) (eK (.str "equal")))) (tK true)))) (tK true)))
theorem gv_fc2(X:XX C)(P:Params)(L:Addr):TV C 6 ((gsh P).envL L) (gsh P).cond2 (vA X):=aBw (X.D0 X.M_get_opcodes) rfl ⋯
def g_fy2(X:XX C):EF:=(eN "group")
theorem gv_fy2(X:XX C)(P:Params)(L:Addr):EV C 6 ((gsh P).envL L) (gsh P).ye2 (g_fy2 X):=aBx (X.D0 X.M_get_opcodes) rfl ⋯
def gfn(X:XX C):GFn:= {pre:=aA3 X,it:=g_it X,tgt:=aA2 X,fc:=g_fc X,f1:=g_f1 X,fy:=g_fy X,f2:=g_f2 X,f3:=g_f3 X,fc2:=vA X,fy2:=g_fy2 X}
theorem XX.gv(X:XX C)(L:Addr):GV C 6 (gsh X.w.params) (gfn X) ((gsh X.w.params).envL L) where
 pre:=gv_pre X X.w.params L
 it:=gv_it X X.w.params L
 tgt:=gv_tgt X X.w.params L
 fc:=gv_fc X X.w.params L
 f1:=gv_f1 X X.w.params L
 fy:=gv_fy X X.w.params L
 f2:=gv_f2 X X.w.params L
 f3:=gv_f3 X X.w.params L
 fc2:=gv_fc2 X X.w.params L
 fy2:=gv_fy2 X X.w.params L
 hs:=λ_=>rfl
 co:=rfl
 ia:=rfl
theorem XX.dG(X:XX C):Def C (gsh X.w.params).fa (gsh X.w.params).fd (gsh X.w.params).body:=(aAt (aY (rH X.w.params))).symm▸X.d_get_grouped_opcodes
def bY(X:XX C):CF:=cGen ["self","n"] []
def bS(X:XX C):CF:=cGen ["self","n"] [.int 3]
theorem gK(X:XX C):CV C 7 (.ref 218) (bY X):=CV.gen X.gc X.dG ⋯ X.b_get_grouped_opcodes (λ_ _=>.nil) (zA ⋯)
theorem fV(X:XX C):CV C 7 (.ref 218) (bS X):=CV.gen X.gc X.dG ⋯ X.b_get_grouped_opcodes1 (λ_ _=>.cons (.int 3 534) .nil) (zA ⋯)
def XX.ktg(X:XX C):Kti C:=⟨l7 X.gc 6 X.gv,iG,IV.gen X.gc X.gv,gR.gen X.gc X.gv,λ_=>trivial⟩
def XX.ktl(X:XX C)(e:Expr):Kti C:=(onN e.ctorIdx 16 (λq=>Expr.Call.elim e q λfn _ _ _=>onN fn.ctorIdx 20 (λq=>Expr.Attribute.elim fn q λ_ x _=>onS x "get_grouped_opcodes" (λ_=>some X.ktg) none) none) none).getD (kt0 e)
def XX.T1(X:XX C):List (Fn C):=fn0 "list" (CV.listG X.gc X.gv (r:=8) (le_refl 8)) X.g_list::fn0 "SequenceMatcher" X.cv_SM X.g_SequenceMatcher 3::fn0 "SequenceMatcher" X.cv_SM4 X.g_SequenceMatcher 4::X.Tb
def XX.M1(X:XX C):List (Mth C):=[me0 "get_grouped_opcodes" (gK X) rfl 1,me0 "get_grouped_opcodes" (fV X) rfl 0,me0 "get_opcodes" (iD X) rfl,me0 "get_matching_blocks" (dZ X) rfl]
end
section
def ltS(f:PyData->PyData->Option Bool)(xs:List PyData):List PyData->Option Bool:=xs.rec (λys=>some (decide (0<ys.length))) λx _ ih ys=>ys.casesOn (some false) λy ys=>if SeqAt.shaped x && SeqAt.shaped y then(if x.eqv y then ih ys else f x y) else none
def ltD(n:Nat):PyData->PyData->Option Bool:=n.rec (λ_ _=>none) λ_ f a b=>match a,b with
 | .int i,.int j=>some (decide (i<j))
 | .tuple xs,.tuple ys=>ltS f xs ys
 | .list xs,.list ys=>ltS f xs ys
 |_,_=>none
def LtOk(n:Nat)(f:PyData->PyData->Option Bool):Prop:=∀ {prog:Program}{w:World}{A:Around}{s:Shared}{a b:Value}{da db:PyData}{as bs:List Addr}{t:Bool}{Q:Value->Shared->Prop}{E:Value->Shared->Prop},A.units+64+n<cLine->Reads s.heap a da as->Reads s.heap b db bs->f da db=some t->Q (.bool t) s->
  wpAny (model prog w) A (richCompare .Lt a b) Q E s
section
variable {prog:Program}{w:World}{n:Nat}{f:PyData->PyData->Option Bool}
theorem aDw{σ:Type}{i0:σ}{fin:Value->σ}{bd:Value×Value->σ->Sem (ForInStep σ)}{A:Around}{E:Value->Shared->Prop}{s:Shared}(h:LtOk n f)(hu:A.units+64+n<cLine)(hb:∀ p q (s:Shared) (R':ForInStep σ->Shared->Prop),wpAny (model prog w) A (eqBool p q) (λe s'=>if e=true then R' (.yield i0) s' else wpAny (model prog w) A (richCompare .Lt p q) (λv s''=>R' (.done (fin v)) s'') E s') E s->wpAny (model prog w) A (bd (p,q) i0) R' E s){R:σ->Shared->Prop}{t:Bool} (k1:R (fin (.bool t)) s):∀ {xs ys:List PyData}{us vs:List Value}{as bs:List Addr},ReadsAll s.heap us xs as->ReadsAll s.heap vs ys bs->ltS f xs ys=some t->(decide (us.length<vs.length)=t->R i0 s)->wpAny (model prog w) A (forIn (us.zip vs) i0 bd) R E s:=by
 intro xs
 induction xs with
 |nil=>
  intro ys us vs as bs r1 r2 e k0
  cases r1
  cases r2 with
  |nil=>exact zzP (k0 (Option.some.inj e))
  |cons r rs=>exact zzP (k0 (Option.some.inj e))
 |cons x xs ih=>
  intro ys us vs as bs r1 r2 e k0
  cases r1 with
  |cons r rs=>cases r2 with
   |nil=>exact zzP (k0 (Option.some.inj e))
   | @cons v vs y ys _ _ r' rs'=>
    replace e:(if SeqAt.shaped x && SeqAt.shaped y then(if x.eqv y then ltS f xs ys else f x y) else none)=some t:=e
    split at e
    ·rename_i hs
     have hs:=and_eq_true_iff.mp hs
     rw[List.zip_cons_cons,forIn_cons]
     refine zzB (hb _ _ s _ (SeqAt.eqBoolOverData prog w A E s _ _ x y _ _ _ r r' (SeqAt.canLay_of_shaped hs.1) (SeqAt.canLay_of_shaped hs.2) (SeqAt.room_of_shaped hs.1 (Yc6 hu)) ?_))
     cases q:x.eqv y with
     |true=>
      rw[q]at e
      rw[if_pos rfl]at e ⊢
      exact ih rs rs' e λd=>k0 (by rw[<-d];simp)
     |false=>
      rw[q]at e
      rw[if_neg Bool.false_ne_true]at e ⊢
      exact h hu r r' e (zzP k1)
    ·cases e
theorem xD(h:LtOk n f){A:Around}{s:Shared}{a b:Value}{xs ys:List PyData}{as bs:List Addr}{t:Bool}{Q:Value->Shared->Prop}{E:Value->Shared->Prop}(hu:A.units+64+(n+1)<cLine)(ra:Reads s.heap a (.tuple xs) as)(rb:Reads s.heap b (.tuple ys) bs)(e:ltS f xs ys=some t)(q:Q (.bool t) s):wpAny (model prog w) A (richCompare .Lt a b) Q E s:=by
 cases ra with
 |tuple g1 c1 d1 r1=>cases rb with
  |tuple g2 c2 d2 r2=>
   have T1:s.TypeIs (.ref _) "tuple" :=⟨_,g1,c1⟩
   have T2:s.TypeIs (.ref _) "tuple" :=⟨_,g2,c2⟩
   refine wpAny_richCompare_same_room (op:=.Lt) T1 T2 F.slot_tuple_lt (wpAny_call_entry F.slot_tuple_lt T1 F.entry_tuple_lt ?_ (F.args_tuple_lt_2 _ _)) (Yc1 hu)
   show wpAny _ A.in1 (do
    if !(<-isInstance (.ref _) (.type "tuple")) then return<-ret .notImplemented
    let xs<-Builtin.Tuple.tupleItemsOf (.ref _)
    let ys<-Builtin.Tuple.tupleItemsOf (.ref _)
    for (x,y) in xs.toList.zip ys.toList do
     if !(<-eqBool x y) then
      rule "tuple.compare.by-the-first-pair-that-differs";return<-ret (<-richCompare .Lt x y)
    ret (Builtin.Tuple.tupleCompareSizes .Lt xs.size ys.size)) _ _ s
   refine zzB (wpAny_isInstance T2 isSubtype_tuple_tuple ?_)
   rw[if_neg (by decide)]
   unfold Builtin.Tuple.tupleItemsOf
   refine zzB (zzB (wpAny_seqItems g1 d1 (zzP (zzB (zzB (wpAny_seqItems g2 d2 (zzP ?_)))))))
   refine zzB (aDw (A:=A.in1) (t:=t) (fin:=λv=>(some (.done (.ret v)),())) h (by show A.units+1+64+n<cLine;exact Yc2 hu) (λp q s' R' hk=>?_) ?_ r1 r2 e λd=>?_)
   ·refine zzB (wpAny_mono hk (λc s'' hc=>?_) λ_ _ z=>z)
    cases c with
    |true=>exact zzP hc
    |false=>exact zzB (wpAny_rule (zzB (wpAny_mono hc (λv s3 h3=>zzB (zzP (zzP h3))) λ_ _ z=>z)))
   ·exact zzP ⟨_,rfl,nofun,q⟩
   ·refine zzP ⟨_,rfl,nofun,?_⟩
    rw[<-d]at q
    exact q
theorem vL{α:Type}{vs:Array α}{i:Nat}{u:α}{us:List α}(h:vs.toList.drop i=u::us):vs[i]? =some u/\vs.toList.drop (i+1)=us:=by
 have h2:=congrArg (λl=>l[0]?) h
 simp only[List.getElem?_drop,Nat.add_zero,List.getElem?_cons_zero,Array.getElem?_toList]at h2
 refine⟨h2,?_⟩
 have h3:=congrArg List.tail h
 rwa [List.tail_drop]at h3
theorem sC{α:Type}{vs:Array α}{i:Nat}(h:vs.toList.drop i= []):vs[i]? =none:=by
 have h2:=List.drop_eq_nil_iff.mp h
 rw[Array.length_toList]at h2
 exact Array.getElem?_eq_none h2
theorem jQ{α:Type}{vs:Array α}{i:Nat}{us:List α}(h:vs.toList.drop i=us)(hi:i<=vs.size):vs.size=i+us.length:=by
 rw[<-h,List.length_drop,Array.length_toList];exact Yc5 hi
theorem aDz(h:LtOk n f){l b:Addr}{o1 o2:Obj}{vs ws:Array Value}{n1 n2:Nat}{t:Bool}(d1:o1.data= .seq vs n1)(d2:o2.data= .seq ws n2):∀ {xs ys:List PyData}{us us2:List Value}{i:Nat}{as bs:List Addr},vs.toList.drop i=us->ws.toList.drop i=us2->i<=vs.size->i<=ws.size->ltS f xs ys=some t-> Meets (Builtin.«list.__eq__.loop» ⟨[.ref l,.ref b,rawInt i,rawInt 0],[]⟩) (λA R s=>A.units+1+64+n<cLine/\s.heap.get? l=some o1/\s.heap.get? b=some o2/\ReadsAll s.heap us xs as/\ReadsAll s.heap us2 ys bs/\R (.ok (.ret (.bool t))) s):=by
 intro xs
 induction xs with
 |nil=>
  intro ys us us2 i as bs e1 e2 i1 i2 e prog w A R s ⟨hu,g1,g2,r1,r2,k⟩
  cases r1
  show wpAny _ A.in1 (Builtin.List.listItems (.ref l) >>=λxs=>Builtin.List.listItems (.ref b) >>=λys=>_) _ _ s
  refine zzB (listItems_at g1 d1 (zzB (listItems_at g2 d2 ?_)))
  rw[show vs[((i:Int)).toNat]? =none from sC e1]
  refine zzB (listItems_at g1 d1 (zzB (listItems_at g2 d2 (zzP ?_))))
  have l1:=jQ e1 i1
  have l2:=jQ e2 i2
  have e:some (decide (0<ys.length))=some t:=e
  have:decide (vs.size<ws.size)=t:=by
   rw[<-Option.some.inj e,l1,l2]
   cases r2<;>simp
  show R (.ok (.ret (.bool (decide (vs.size<ws.size))))) s
  rw[this];exact k
 |cons x xs ih=>
  intro ys us us2 i as bs e1 e2 i1 i2 e prog w A R s ⟨hu,g1,g2,r1,r2,k⟩
  cases r1 with
  |cons r rs=>
  have v1:=vL e1
  have l1:=jQ e1 i1
  have l2:=jQ e2 i2
  show wpAny _ A.in1 (Builtin.List.listItems (.ref l) >>=λxs=>Builtin.List.listItems (.ref b) >>=λys=>_) _ _ s
  refine zzB (listItems_at g1 d1 (zzB (listItems_at g2 d2 ?_)))
  rw[show vs[((i:Int)).toNat]? =_ from v1.1]
  cases r2 with
  |nil=>
   rw[show ws[((i:Int)).toNat]? =none from sC e2]
   refine zzB (listItems_at g1 d1 (zzB (listItems_at g2 d2 (zzP ?_))))
   have e:some false=some t:=e
   have:decide (vs.size<ws.size)=t:=by
    rw[<-Option.some.inj e,l1,l2]
    simp
   show R (.ok (.ret (.bool (decide (vs.size<ws.size))))) s
   rw[this];exact k
  | @cons v vs2 y ys _ _ r' rs'=>
   have v2:=vL e2
   rw[show ws[((i:Int)).toNat]? =_ from v2.1]
   replace e:(if SeqAt.shaped x && SeqAt.shaped y then(if x.eqv y then ltS f xs ys else f x y) else none)=some t:=e
   split at e
   ·rename_i hs
    have hs:=and_eq_true_iff.mp hs
    refine zzB (SeqAt.eqBoolOverData prog w A.in1 _ s _ _ x y _ _ _ r r' (SeqAt.canLay_of_shaped hs.1) (SeqAt.canLay_of_shaped hs.2) (SeqAt.room_of_shaped hs.1 (by show A.units+1+64<cLine;exact Yc4 hu)) ?_)
    rw[length_cons]at l1 l2
    cases q:x.eqv y with
    |true=>
     rw[q]at e
     rw[if_pos rfl]at e ⊢
     refine zzP ⟨plainId_quiet MeetsSeq3.plain_eq_loop _,codeAny_builtin MeetsSeq3.entry_eq_loop ?_⟩
     rw[Around.under_plainId MeetsSeq3.plain_eq_loop _]
     exact ih (i:=i+1) v1.2 v2.2 (Yc3 l1) (Yc3 l2) e prog w A R s ⟨hu,g1,g2,rs,rs',k⟩
    |false=>
     rw[q]at e
     rw[if_neg Bool.false_ne_true]at e ⊢
     refine zzB (listItems_at g1 d1 (zzB (listItems_at g2 d2 ?_)))
     rw[show vs[((i:Int)).toNat]? =_ from v1.1,show ws[((i:Int)).toNat]? =_ from v2.1]
     exact zzB (h (A:=A.in1) (by show A.units+1+64+n<cLine;exact hu) r r' e (zzP k))
   ·cases e
theorem aDy(h:LtOk n f){prog:Program}{w:World}{A:Around}{s:Shared}{a b:Value}{xs ys:List PyData}{as bs:List Addr}{t:Bool}{Q:Value->Shared->Prop}{E:Value->Shared->Prop}(hu:A.units+64+(n+1)<cLine)(ra:Reads s.heap a (.list xs) as)(rb:Reads s.heap b (.list ys) bs)(e:ltS f xs ys=some t)(q:Q (.bool t) s):wpAny (model prog w) A (richCompare .Lt a b) Q E s:=by
 cases ra with
 |list g1 c1 d1 r1=>cases rb with
  |list g2 c2 d2 r2=>
   refine richCompare_meets_room (op:=.Lt) ⟨_,g1,c1⟩ ⟨_,g2,c2⟩ F.slot_list_lt F.entry_list_lt (F.args_list_lt_2 _ _) (S:=λA R s=>A.units+1+64+n<cLine/\s.heap.get? _=some _/\s.heap.get? _=some _/\ReadsAll s.heap _ xs _/\ReadsAll s.heap _ ys _/\R (.ok (.ret (.bool t))) s) ?_ ⟨by exact Yc2 hu,g1,g2,r1,r2,nofun,q⟩ (Yc1 hu)
   intro prog w A R s ⟨hu,g1,g2,r1,r2,k⟩
   show wpAny _ A.in1 (do
    if !(<-isInstance (.ref _) (.type "list")) then return<-ret .notImplemented
    again (.builtin "list.__eq__.loop" ⟨[.ref _,.ref _,rawInt 0,rawInt 0],[]⟩)) _ _ s
   refine zzB (wpAny_isInstance ⟨_,g2,c2⟩ AutoSeq1.sub_list_list ?_)
   rw[if_neg (by decide)]
   refine zzP ⟨plainId_quiet MeetsSeq3.plain_eq_loop _,codeAny_builtin MeetsSeq3.entry_eq_loop ?_⟩
   rw[Around.under_plainId MeetsSeq3.plain_eq_loop _]
   exact aDz (i:=0) h d1 d2 rfl rfl (zero_le _) (zero_le _) e prog w A R s ⟨hu,g1,g2,r1,r2,k⟩
theorem ltD_ok(n:Nat):LtOk n (ltD n):=by
 induction n with
 |zero=>intro prog w A s a b da db as bs t Q E hu ra rb e;cases e
 |succ n ih=>
  intro prog w A s a b da db as bs t Q E hu ra rb e q
  cases da with
  |int i=>cases db with
   |int j=>cases ra;cases rb;cases e;exact lt_int q
   |_=>cases e
  |tuple xs=>cases db with
   |tuple ys=>exact xD ih hu ra rb e q
   |_=>cases e
  |list xs=>cases db with
   |list ys=>exact aDy ih hu ra rb e q
   |_=>cases e
  |_=>cases e
end
end
section
variable {C:Cx}{r:Nat}
section
variable {prog:Program}{w:World}{A:Around}{E:Value->Shared->Prop}{R:Result->Shared->Prop}{I:Addr}{fp wr:List Addr}{n:Nat}{P:Nat->Value->Prop}{St:Nat->Heap->Prop}{h0:Heap}{bt:Nat->Nat->Bool}{S:Addr}
def Kp(h0 h:Heap):Prop:=∀ b o,h0.get? b=some o->h.get? b=some o
def CmpH(prog:Program)(w:World)(A:Around)(h0:Heap)(n:Nat)(P:Nat->Value->Prop)(bt:Nat->Nat->Bool):Prop:=∀ {i j:Nat}{u v:Value}{s:Shared}{Q E:Value->Shared->Prop},Kp h0 s.heap->P i u->P j v->i<n->j<n->Q (.bool (bt i j)) s->wpAny (model prog w) A (richCompare .Lt u v) Q E s
noncomputable abbrev cell(S:Addr)(v:Value)(c:Nat)(h:Heap):Prop:=h.get? S=some {cls:=.type "list",dict:=none,data:=.seq #[v,v] c,slots:= #[]}
theorem qR{m:Nat}(bt:Nat->Nat->Bool):argBest bt m<=m:=by
 induction m with
 |zero=>exact le_refl _
 |succ m ih=>
  unfold argBest
  split
  ·exact le_refl _
  ·exact le_succ_of_le ih
theorem wM(W:Walks prog w A.in1 I fp wr n P St)(hcmp:CmpH prog w A.in1 h0 n P bt)(hSf:S∉fp)(hw:∀ b∈wr,h0.get? b=none)(hS0:h0.get? S=none){s0:Shared} (hR:∀ {v:Value}{h':Heap}{tk:Nat},P (argBest bt (n-1)) v->Kp h0 h'->R (.ok (.ret v)) {s0 with heap:=h',toks:=tk}):∀ (k j:Nat){h:Heap}{tk:Nat}{v:Value}{c:Nat},j+1+k=n->Kp h0 h->St (j+1) h->P (argBest bt j) v->cell S v c h->
  codeAny (model prog w) A (.builtin "min.loop" ⟨[.ref I,.none,.ref S],[]⟩) R {s0 with heap:=h,toks:=tk}:=by
 have nm:(toString "min" ++toString ".loop" :String)="min.loop" :=by decide
 have hSw:S∉wr:=λq=>hSf (W.sub _ q)
 have kp:∀ {h h':Heap},Kp h0 h->(∀ b o,b∉wr->h.get? b=some o->h'.get? b=some o)->Kp h0 h':=λa q b o e=>q b o (λm=>by rw[hw b m]at e;cases e) (a b o e)
 have ks:∀ {h:Heap}{f:Array Value->Array Value},Kp h0 h->Kp h0 (h.update S (Obj.mapSeq f)):=λa b o e=>(Heap.get?_update_other _ _ (λq=>by rw[q,e]at hS0;cases hS0)).trans (a b o e)
 intro k
 induction k with
 |zero=>
  intro j h tk v c hn hk st hP hc
  refine codeAny_builtin F.entry_min_loop ?_
  rw[Around.under_plainId F.plain_min_loop _]
  show wpAny _ A.in1 (seqItems? (.ref S) >>=_) _ _ _
  refine zzB (wpAny_seqItems hc rfl ?_)
  show wpAny _ A.in1 (tryCatch (pyNext (.ref I)) _ >>=_) _ _ _
  refine zzB (wpAny_tryCatch (W.done _ _ _ (hn▸st) λh' tk hk'=>?_))
  show wpAny _ A.in1 (updateSeq S (λ_=> #[]) >>=_) _ _ _
  refine zzB (wpAny_updateSeq (hk' S _ hSw hc) rfl (zzB (wpAny_letGo (zzP ?_))))
  exact hR (by rw[<-hn];exact hP) (ks (kp hk hk'))
 |succ k ih=>
  intro j h tk v c hn hk st hP hc
  have hlt:j+1<n:=by exact Yc12 hn
  refine codeAny_builtin F.entry_min_loop ?_
  rw[Around.under_plainId F.plain_min_loop _]
  show wpAny _ A.in1 (seqItems? (.ref S) >>=_) _ _ _
  refine zzB (wpAny_seqItems hc rfl ?_)
  show wpAny _ A.in1 (tryCatch (pyNext (.ref I)) _ >>=_) _ _ _
  refine zzB (wpAny_tryCatch (W.item (j+1) _ _ _ hlt st λu h' tk hP' st' hk'=>?_))
  have hc':=hk' S _ hSw hc
  have hkp:=kp hk hk'
  show wpAny _ A.in1 (tryCatch (holding [u,u] (richCompare .Lt u v >>=_)) _ >>=_) _ _ _
  refine zzB (wpAny_tryCatch (wpAny_holding (zzB (hcmp hkp hP' hP hlt (lt_of_le_of_lt (qR bt) (Nat.lt_of_succ_lt hlt)) ?_))))
  refine zzB (wpAny_holding (wpAny_truthy_bool (zzB (wpAny_letGo (zzP ?_)))))
  cases hb:bt (j+1) (argBest bt j) with
  |true=>
   rw[if_pos rfl]
   refine zzB (wpAny_updateSeq hc' rfl (zzB (wpAny_letGo ?_)))
   rw[nm]
   exact zzP ⟨plainId_quiet F.plain_min_loop _,ih (j+1) (Yc11 hn) (ks hkp) (W.frame _ _ _ st' λb hbf o e=>(Heap.get?_update_other _ _ (λq:S=b=>hSf (by rw[q];exact hbf))).trans e) (by unfold argBest;rw[hb];exact hP') (Heap.get?_update_self _ hc' rfl)⟩
  |false=>
   rw[if_neg Bool.false_ne_true]
   refine zzB (wpAny_letGo ?_)
   rw[nm]
   exact zzP ⟨plainId_quiet F.plain_min_loop _,ih (j+1) (Yc11 hn) hkp st' (by unfold argBest;rw[hb];exact hP) hc'⟩
theorem wN(W:Walks prog w A.in1 I fp wr n P St)(hcmp:CmpH prog w A.in1 h0 n P bt)(hSf:S∉fp)(hw:∀ b∈wr,h0.get? b=none)(hS0:h0.get? S=none)(h1:0<n){s:Shared}{c:Nat} (hR:∀ {v:Value}{h':Heap}{tk:Nat},P (argBest bt (n-1)) v->Kp h0 h'->R (.ok (.ret v)) {s with heap:=h',toks:=tk}) (hk:Kp h0 s.heap) (st:St 0 s.heap)
  (hc:s.heap.get? S=some {cls:=.type "list",dict:=none,data:=.seq #[] c,slots:= #[]}):codeAny (model prog w) A (.builtin "min.loop" ⟨[.ref I,.none,.ref S],[]⟩) R s:=by
 have nm:(toString "min" ++toString ".loop" :String)="min.loop" :=by decide
 have hSw:S∉wr:=λq=>hSf (W.sub _ q)
 refine codeAny_builtin F.entry_min_loop ?_
 rw[Around.under_plainId F.plain_min_loop _]
 show wpAny _ A.in1 (seqItems? (.ref S) >>=_) _ _ s
 refine zzB (wpAny_seqItems hc rfl ?_)
 show wpAny _ A.in1 (tryCatch (pyNext (.ref I)) _ >>=_) _ _ s
 refine zzB (wpAny_tryCatch (W.item 0 s _ _ h1 st λv h' tk hP st' hk'=>?_))
 have hc':=hk' S _ hSw hc
 show wpAny _ A.in1 (updateSeq S (λ_=> #[v,v]) >>=_) _ _ _
 refine zzB (wpAny_updateSeq hc' rfl ?_)
 rw[nm]
 refine zzP ⟨plainId_quiet F.plain_min_loop _,wM (s0:=s) W hcmp hSf hw hS0 hR (n-1) 0 (Yc10 h1) (λb o e=>?_) (W.frame _ _ _ st' λb hbf o e=>?_) hP (Heap.get?_update_self _ hc' rfl)⟩
 ·exact(Heap.get?_update_other _ _ (λq=>by rw[q,e]at hS0;cases hS0)).trans (hk' b o (λm=>by rw[hw b m]at e;cases e) (hk b o e))
 ·exact(Heap.get?_update_other _ _ (λq:S=b=>hSf (by rw[q];exact hbf))).trans e
theorem aB6{s:Shared}{l:Addr}{xs:Array Value}{Q:Value->Shared->Prop}(hh:A.handled=none)(hl:s.heap.IsList l xs)(h1:0<xs.size)(hcmp:CmpH prog w A.in1 s.heap xs.size (λi v=>xs[i]? =some v) bt)(k:∀ {v:Value}{h':Heap}{tk:Nat},xs[argBest bt (xs.size-1)]? =some v->Kp s.heap h'->Q v {s with heap:=h',toks:=tk}):wpAny (model prog w) A (call (.builtin "min") [.ref l]) Q E s:=by
 have nm:(toString "min" ++toString ".loop" :String)="min.loop" :=by decide
 refine call_function_tree F.kind_min F.plain_min F.entry_min (F.args_min1 _) ?_
 show wpAny _ A.in1 (Builtin.Builtins.bindParams "min" ["key","default"] 0 ⟨[],[]⟩ >>=_) _ _ s
 refine zzB (wpAny_of_eq (show Builtin.Builtins.bindParams "min" ["key","default"] 0 ⟨[],[]⟩=pure [none,none] from rfl) ?_)
 refine zzB (zzP ?_)
 have hlt:l<s.heap.objs.size:=by obtain⟨_,e,_⟩:=hl;exact Heap.lt_size e
 refine zzB (wpAny_pyIter_list hl (zzB (wpAny_newObj_type ?_)))
 rw[nm]
 refine zzP ⟨plainId_quiet F.plain_min_loop _,?_⟩
 have nx:∀ {h:Heap}{b:Addr},h.objs.size<=b->h.get? b=none:=λq=>Option.eq_none_iff_forall_ne_some.mpr λo e=>absurd (Heap.lt_size e) (Nat.not_lt.mpr q)
 have z:∀ {h:Heap}{o:Obj},(h.push o).objs.size=h.objs.size+1:=λ{h o}=>Heap.size_push ..
 refine wN (h0:=s.heap) (I:=s.heap.objs.size) (Walks.list (A:=A.in1) hh _ l (ne_of_lt hlt) xs) hcmp (S:=(s.heap.push _).objs.size) ?_ (λb hb=>?_) (nx (by rw[z];exact le_succ _)) h1 (λ{v h' tk} hv hk=>k hv hk) (λb o e=>Heap.get?_push_of_some _ (Heap.get?_push_of_some _ e)) ⟨?_,(hl.push _).push _⟩ (Heap.get?_push_size _ rfl)
 ·rw[z]
  intro m
  rcases mem_cons.mp m with m |m
  ·exact succ_ne_self _ m
  ·exact Nat.lt_irrefl _ (lt_trans (lt_succ_self _) (mem_singleton.mp m▸hlt))
 ·rw[mem_singleton.mp hb];exact nx (le_refl _)
 ·exact⟨_,Heap.get?_push_of_some _ (Heap.get?_push_size _ rfl),rfl,rfl⟩
end
def vT:CF:=λvs H Q=>Lf ((one vs).bind (lst H)) λxs=>∃ (ds:List PyData) (bt:Nat->Nat->Bool) (v:V),(∀ i,i<xs.length->∃ x d,xs[i]? =some x/\ds[i]? =some d/\rd H 6 x=some d)/\(∀ i j x y,ds[i]? =some x->ds[j]? =some y->ltD 5 x y=some (bt i j))/\0<xs.length/\xs[argBest bt (xs.length-1)]? =some v/\Q v H
theorem CV.minL:CV C r (.builtin "min") vT:=⟨b6,λ{A s ρ H us vs Q} hr S rs q=>q.elim λxs e ⟨ds,bt,v,h1,h2,h3,h4,q⟩=>by
 refine xEA (bind_eq_some_iff.mp e) λx hx hl=>?_
 refine xEA (f9 rs hx) λu z ru=>?_;subst z
 refine bL (b5 S ru hl) λad ys z il rl=>?_;subst z
 have sz:=rl.sz
 rw[<-sz]at h3 h4
 refine aB6 hr.1 il h3 (bt:=bt) (λ{i j u v s' Q' E'} hk hu hv hi hj q'=>?_) λ{w h' tk} hw hk=>?_
 ·rw[sz]at hi hj
  obtain⟨x1,d1,e1,f1,g1⟩:=h1 i hi
  obtain⟨x2,d2,e2,f2,g2⟩:=h1 j hj
  refine xEA (rl.get e1) λu1 a1 b1=>?_
  refine xEA (rl.get e2) λu2 a2 b2=>?_
  rw[Array.getElem?_toList]at a1 a2
  cases hu.symm.trans a1
  cases hv.symm.trans a2
  refine xE (eE S _ b1 g1) λas r1=>?_
  refine xE (eE S _ b2 g2) λbs r2=>?_
  refine ltD_ok 5 (A:=A.in1) ?_ (Reads.keeps hk r1) (Reads.keeps hk r2) (h2 i j d1 d2 f1 f2) q'
  have:=hr.2.2
  show A.units+1+64+5<9900
  exact Yc9 this
 ·refine xEA (rl.get h4) λu1 a1 b1=>?_
  rw[Array.getElem?_toList]at a1
  cases hw.symm.trans a1
  exact(EPo.ext S hk b1).post q⟩
def aB9:CF:=λvs H Q=>Lf (((one vs).bind (lst H)).bind iS) λis=>0<is.length/\∀ M,M∈is->(∀ a∈is,a<=M)->Q (.int M) H
theorem CV.maxL:CV C r (.builtin "max") aB9:=⟨b6,λ{A s ρ H us vs Q} hr S rs q=>q.elim λis e ⟨h3,q⟩=>by
 refine xEA (bind_eq_some_iff.mp e) λxs e hi=>?_
 refine xEA (bind_eq_some_iff.mp e) λx hx hl=>?_
 refine xEA (f9 rs hx) λu z ru=>?_;subst z
 refine bL (b5 S ru hl) λad ys z il rl=>?_;subst z
 refine xEA (pM rl hi) λts ht1 ht2=>?_
 have hys:ys=intItems (is.zip ts).toArray:=by
  apply Array.toList_inj.mp
  rw[ht2]
  simp [intItems]
 have sz:(is.zip ts).toArray.size=is.length:=by simp [ht1]
 have nm:∀ j,numAt (is.zip ts).toArray j=is.getD j 0:=λj=>by
  rw[numAt_eq]
  simp only[List.map_fst_zip (Nat.le_of_eq ht1.symm)]
 rw[hys]at il
 refine max_intList hr.1 il (by rw[sz];exact h3) λv h' tk hv hk=>?_
 obtain⟨t,rfl⟩:=intItems_at hv
 obtain⟨g1,g2⟩:=argBest_gt (numAt (is.zip ts).toArray) ((is.zip ts).toArray.size-1)
 rw[sz]at g1 g2 ⊢
 have lt:argBest (λi j=>decide (numAt (is.zip ts).toArray i>numAt (is.zip ts).toArray j)) (is.length-1)<is.length:=by exact Yc8 h3 g1
 refine(EPo.ext S hk (.int _ _)).post (q _ (by rw[nm];exact getD_mem lt) λa ha=>?_)
 obtain⟨j,hj,rfl⟩:=mem_getD ha
 rw[<-nm]
 exact g2 j (Yc7 hj)⟩
end
section
variable {C:Cx}{r:Nat}{env:Env}
def nN(g:OpF)(f1 f2 f:EF):SF:=λlo H Q=>f1 lo H λa H1=>f2 lo H1 λb H2=>Lp (aR a b H2) λw H3=>f lo H3 λc H4=>Lp (g w c H4) λv H5=>Lf (oS a b v H5) λH6=>Q .next lo H6
theorem SV.augI{o i e:Expr}{op:Operator}{pos' pos}{f1 f2 f:EF}{g:OpF}(h1:EV C r env o f1)(h2:EV C r env i f2)(h:EV C r env e f)(ho:OpR C r (inplaceOp op) g)(ha:∀ ov iv new,augStore i ov iv new=(do holding [new,ov,iv] (setItem ov iv new);release [new,ov,iv] [];pure .next)):SV C r env (.AugAssign (.Subscript o i pos') op e pos) (nN g f1 f2 f):=λ_ _ _ _ _ _ hr S F q=>wpAny_AugAssign_Subscript_any (h1.run hr S F q λS1 N1 r1 q=>h2.run hr S1 (F.nx N1) q λS2 N2 r2 q=>q.elim λp e q=>by
  obtain⟨hH,z,rz,hz,_⟩:=mD (A:=_) S2 (r1.nx N2) r2 e
  have F2:=(F.nx N1).nx N2
  refine hz _ (h.run hr S2 F2 (hH▸q) λS4 N4 r4 q=>bK.run (ho hr S4 (rz.nx N4) r4 q) λS5 N5 r5 q=>q.elim λH6 e6 q=>?_)
  refine lT S5 (((r1.nx N2).nx N4).nx N5) ((r2.nx N4).nx N5) r5 e6 λs' S6 N6=>⟨S6,(((N1.trans N2).trans N4).trans N5).wr.trans (N6 _),((F2.nx N4).nx N5).nx (N6 _),.next,q⟩) ha
end
section
variable {C:Cx}{r:Nat}
theorem aDr{κ:Kn}{env:Env}{as2:List Expr}{ks2:List Keyword}{np p2:Pos}{x:Str}{ap pos:Pos}{as:List Expr}{f:EFs}(al:EsP C r κ as f)(hl:as.length.blt 30=true)(hk:(ap.endLine==pos.line)=true):eX env (.Call (.Name "SequenceMatcher" np) as2 ks2 p2) x ap pos as:=⟨by cases as2<;>cases ks2<;>rfl,by rw[al.al];exact decide_eq_true (le_of_ble_eq_true hl),hk⟩
def xMc(smc:SMC C)(M:List (Mth C))(d:dEt C r)(κ:Kn)(e:Expr):Option (RE C r κ e):=onN e.ctorIdx 16 (λq=>Expr.Call.elim (motive_1:=λe=>Option (RE C r κ e)) e q λfn as ks p=>ks.casesOn (onN fn.ctorIdx 20 (λq=>Expr.Attribute.elim (motive_1:=λfn=>Option (RE C r κ (.Call fn as [] p))) fn q λo m ap=>
 onN o.ctorIdx 16 (λq=>Expr.Call.elim (motive_1:=λo=>Option (RE C r κ (.Call (.Attribute o m ap) as [] p))) o q λfn2 as2 ks2 p2=>onN fn2.ctorIdx 23 (λq=>Expr.Name.elim (motive_1:=λfn2=>Option (RE C r κ (.Call (.Attribute (.Call fn2 as2 ks2 p2) m ap) as [] p))) fn2 q λy np=>onS y "SequenceMatcher" (λhy=>
  bd (d κ (.Call (.Name y np) as2 ks2 p2)) λf h=>onB (ap.endLine==p.line) λhk=>bd (dEs d κ as) λg hs=>bd (fndM m as.length M) λt te=>onB (t.r0.ble r) λhr=>onB (as.length.blt 30) λhl=>
   some ⟨eF t.g f g,λ_ k=>by subst hy;exact EV.meth smc (te▸List.contains_iff_mem.mp t.hm) (t.cv.lift hr) (h.ok k) (hs.ok k) (hs.fl _) (aDr hs hl hk),pfC⟩) none) none) none) none) λ_ _=>none) none
theorem aug_ok{i:Expr}(h:(i.ctorIdx.beq 3 || i.ctorIdx.beq 21)=true):∀ ov iv new,augStore i ov iv new=(do holding [new,ov,iv] (setItem ov iv new);release [new,ov,iv] [];pure .next):=by
 cases i<;>first |exact λ_ _ _=>rfl |cases h
def xAu(d:dEt C r)(κ:Kn)(st:Stmt):Option (Pk SF λf=>∀ ⦃env:Env⦄,KE κ env->SV C r env st f):=onN st.ctorIdx 7 (λq=>Stmt.AugAssign.elim st q λt op e pos=>onN op.ctorIdx 0 (λq=>Operator.Add.elim (motive:=λop=>Option (Pk SF λf=>∀ ⦃env:Env⦄,KE κ env->SV C r env (.AugAssign t op e pos) f)) op q <|
 onN t.ctorIdx 21 (λq=>Expr.Subscript.elim (motive_1:=λt=>Option (Pk SF λf=>∀ ⦃env:Env⦄,KE κ env->SV C r env (.AugAssign t .Add e pos) f)) t q λo i p=>bd (d κ o) λf1 h1=>bd (d κ i) λf2 h2=>bd (d κ e) λf h=>onB (i.ctorIdx.beq 3 || i.ctorIdx.beq 21) λhi=>
  some ⟨nN mU f1 f2 f,λ_ k=>SV.augI (h1.ok k) (h2.ok k) (h.ok k) OpR.iadd (aug_ok hi)⟩) none) none) none
end
section
variable {C:Cx}
def XX.D1(X:XX C)(T:List (Fn C)):DX C:=⟨X.smc,T++fn0 (r0:=0) "min" CV.minL X.g_min 1::fn0 (r0:=0) "max" CV.maxL X.g_max 1::fn0 (r0:=0) "sum" CV.sum X.g_sum::X.T1,X.M1,X.ktl,_,X.km,X.g_enumerate,X.sys,λd t κ e=>orE (xIfE d t κ e) (orE (xSl d κ e) (xMc X.smc X.M1 d κ e)),λ_ _ _=>none,λd κ st=>xAu d κ st⟩
def nH(X:XX C):SF:=(cM ["first","second"] (aW (esC (d9 esN) (esC (d9 esN) esN))))
def nG(X:XX C):SF:=(eY (cU C) (iL (eN "numbers")) (aN "x") (aA (aZ "item" (aB l0 (aB yX (eN "x") (eK (.int 9))) (eK (.int 5)))) (aA (sIf (tE (aB (oIn not) (aB l0 (eN "x") (eK (.int 9))) (aW (esC (eK (.int 1)) (esC (eK (.int 8)) esN))))) (aA (aS (bZ (eN "first") (eN "item"))) (sK .next)) (sK .next)) (aA (sIf (tE (aB (bG id) (aB l0 (eN "x") (eK (.int 9))) (eK (.int 2)))) (aA (aS (bZ (eN "second") (aB aI (eN "item") (eK (.int 1))))) (sK .next)) (aA (sIf (tE (aB (oIn not) (aB l0 (eN "x") (eK (.int 9))) (aW (esC (eK (.int 0)) (esC (eK (.int 8)) esN))))) (aA (aS (bZ (eN "second") (eN "item"))) (sK .next)) (sK .next)) (sK .next))) (sK .next)))))
def nF(X:XX C):SF:=(f7 (aW (esC (eN "first") (esC (eN "second") esN))))
def iB(X:XX C):SF:=(aA (nH X) (aA (nG X) (aA (nF X) (sK .next))))
theorem oK(X:XX C)(P:Params)(L:Addr):SVs C 10 (callEnvC (aY (o253 P)) L 253) (cL (stA 7)) (iB X):=cR (X.D1 []) rfl ⋯
def iF(X:XX C):CF:=iK ["numbers"] [] (iB X)
theorem eM(X:XX C):CV C 11 (.ref 253) (iF X):=CV.def_ X.d__law_lists ⋯ X.b__law_lists (λ_ _=>.nil) (cV ⋯) (λL=>oK X X.w.params L)
def nD(X:XX C):SF:=(cC (eK (.int 0)) (fM (aN "i") (aN "j")))
def nC(X:XX C):SF:=(cM ["changes","kept"] (aW (esC (d9 esN) (esC (d9 (esC (eK (.int 0)) esN)) esN))))
def nA(X:XX C):SF:=(eY (cU C) (iL (eN "blocks")) (b3 3 (asC (aN "ai") (asC (aN "bj") (asC (aN "size") asN)))) (aA (sIf (tOr (tE (aB (bC λx y=>decide (x<y)) (eN "i") (eN "ai"))) (tOr (tE (aB (bC λx y=>decide (x<y)) (eN "j") (eN "bj"))) (tK false))) (aA (aS (bZ (eN "changes") (aW (esC (eN "i") (esC (eN "ai") (esC (eN "j") (esC (eN "bj") esN))))))) (aA (aS (bZ (eN "kept") (eK (.int 0)))) (sK .next))) (sK .next)) (aA (nN mU (eN "kept") (i8 (eK (.int 1))) (eN "size")) (aA (cM ["i","j"] (aW (esC (aB aI (eN "ai") (eN "size")) (esC (aB aI (eN "bj") (eN "size")) esN)))) (sK .next)))))
def m9(X:XX C):SF:=(f7 (aW (esC (eN "changes") (esC (eN "kept") esN))))
def iA(X:XX C):SF:=(aA (nD X) (aA (nC X) (aA (nA X) (aA (m9 X) (sK .next)))))
theorem oJ(X:XX C)(P:Params)(L:Addr):SVs C 10 (callEnvC (aY (o260 P)) L 260) (cL (stA 8)) (iA X):=cR (X.D1 [fn0 "_law_lists" (eM X) X.g__law_lists]) rfl ⋯
def iE(X:XX C):CF:=iK ["blocks"] [] (iA X)
theorem gG(X:XX C):CV C 11 (.ref 260) (iE X):=CV.def_ X.d__law_parts ⋯ X.b__law_parts (λ_ _=>.nil) (cV ⋯) (λL=>oJ X X.w.params L)
def kA(X:XX C):SF:=(aZ "best" (d9 (esC (aW (esC (eK (.int 0)) (esC (eK (.int 0)) (esC (d9 esN) esN)))) esN)))
def j9(X:XX C):SF:=(eY (hV C) (iR (aM cY (esC (eK (.int 1)) (esC (aM d5 (esC (eN "kept") esN)) esN)))) (aN "end") (aA (aZ "ways" (d9 esN)) (aA (eY (hV C) (iR (aM cY (esC (eN "end") esN))) (aN "begin") (aA (aZ "shown" (aB aI (aB aI (aM jC (esC (eN "n") (esC (aB aR (eN "kept") (eN "begin")) esN))) (aM cSum (esC (sB (eN "kept") (aB aI (eN "begin") (eK (.int 1))) (eN "end") (eK .none)) esN))) (aM jC (esC (eN "n") (esC (aB aR (eN "kept") (eN "end")) esN))))) (aA (cC (aB aR (eN "best") (eN "begin")) (b3 3 (asC (aN "items") (asC (aN "runs") (asC (aN "cut") asN))))) (aA (aS (bZ (eN "ways") (aW (esC (aB aI (eN "items") (eN "shown")) (esC (aB aI (eN "runs") (eK (.int 1))) (esC (aB aI (eN "cut") (d9 (esC (aW (esC (eN "begin") (esC (eN "end") esN))) esN))) esN)))))) (sK .next))))) (aA (aS (bZ (eN "best") (aM vT (esC (eN "ways") esN)))) (sK .next)))))
def j8(X:XX C):SF:=(f7 (aB aR (aB aR (eN "best") (i8 (eK (.int 1)))) (eK (.int 2))))
def eT(X:XX C):SF:=(aA (kA X) (aA (j9 X) (aA (j8 X) (sK .next))))
theorem lA(X:XX C)(P:Params)(L:Addr):SVs C 10 (callEnvC (aY (o267 P)) L 267) (cL (stA 9)) (eT X):=cR (X.D1 [fn0 "_law_parts" (gG X) X.g__law_parts,fn0 "_law_lists" (eM X) X.g__law_lists]) rfl ⋯
def d0(X:XX C):CF:=iK ["kept","n"] [] (eT X)
theorem gY(X:XX C):CV C 11 (.ref 267) (d0 X):=CV.def_ X.d__law_cheapest ⋯ X.b__law_cheapest (λ_ _=>.nil) (cV ⋯) (λL=>lA X X.w.params L)
def m8(X:XX C):SF:=(aZ "rows" (d9 esN))
def m7(X:XX C):SF:=(eY (hV C) (iR (aM cY (esC (eN "begin") (esC (eN "end") esN)))) (aN "k") (aA (cC (aB aR (eN "changes") (eN "k")) (b3 4 (asC (aN "i") (asC (aN "iend") (asC (aN "j") (asC (aN "jend") asN)))))) (aA (aZ "size" (eIf (tE (aB (bC λx y=>decide (x>y)) (eN "k") (eN "begin"))) (aB aR (eN "kept") (eN "k")) (aM jC (esC (eN "n") (esC (aB aR (eN "kept") (eN "k")) esN))))) (aA (sIf (tE (aB (bC λx y=>decide (x>y)) (aB aR (eN "kept") (eN "k")) (eK (.int 0)))) (aA (aS (bZ (eN "rows") (aW (esC (eK (.str "equal")) (esC (aB cE (eN "i") (eN "size")) (esC (eN "i") (esC (aB cE (eN "j") (eN "size")) (esC (eN "j") esN)))))))) (sK .next)) (sK .next)) (aA (aS (bZ (eN "rows") (aW (esC (eIf (tE (aB (bG id) (eN "i") (eN "iend"))) (eK (.str "insert")) (eIf (tE (aB (bG id) (eN "j") (eN "jend"))) (eK (.str "delete")) (eK (.str "replace")))) (esC (eN "i") (esC (eN "iend") (esC (eN "j") (esC (eN "jend") esN)))))))) (sK .next))))))
def m6(X:XX C):SF:=(aZ "size" (aM jC (esC (eN "n") (esC (aB aR (eN "kept") (eN "end")) esN))))
def m4(X:XX C):SF:=(cM ["i","j"] (aW (esC (aB aR (aB aR (eN "changes") (aB cE (eN "end") (eK (.int 1)))) (eK (.int 1))) (esC (aB aR (aB aR (eN "changes") (aB cE (eN "end") (eK (.int 1)))) (eK (.int 3))) esN))))
def m3(X:XX C):SF:=(sIf (tE (aB (bC λx y=>decide (x>y)) (aB aR (eN "kept") (eN "end")) (eK (.int 0)))) (aA (aS (bZ (eN "rows") (aW (esC (eK (.str "equal")) (esC (eN "i") (esC (aB aI (eN "i") (eN "size")) (esC (eN "j") (esC (aB aI (eN "j") (eN "size")) esN)))))))) (sK .next)) (sK .next))
def m2(X:XX C):SF:=(f7 (eN "rows"))
def hZ(X:XX C):SF:=(aA (m8 X) (aA (m7 X) (aA (m6 X) (aA (m4 X) (aA (m3 X) (aA (m2 X) (sK .next)))))))
theorem oI(X:XX C)(P:Params)(L:Addr):SVs C 10 (callEnvC (aY (o274 P)) L 274) (cL (stA 10)) (hZ X):=cR (X.D1 [fn0 "_law_cheapest" (gY X) X.g__law_cheapest,fn0 "_law_parts" (gG X) X.g__law_parts,fn0 "_law_lists" (eM X) X.g__law_lists]) rfl ⋯
def dF(X:XX C):CF:=iK ["changes","kept","n","begin","end"] [] (hZ X)
theorem qN(X:XX C):CV C 11 (.ref 274) (dF X):=CV.def_ X.d__law_shown ⋯ X.b__law_shown (λ_ _=>.nil) (cV ⋯) (λL=>oI X X.w.params L)
end
section
variable {C:Cx}
def vF(X:XX C):SF:=(aZ "numbers" (eIf (tE (aB (bC λx y=>decide (x>y)) (aM d5 (esC (eN "script") esN)) (eK (.int 3)))) (eN "script") (aB aI (eN "script") (d9 (esC (eK (.int 3)) (esC (eK (.int 36)) (esC (eK (.int 12)) (esC (eK (.int 21)) (esC (eK (.int 30)) (esC (eK (.int 39)) (esC (eK (.int 37)) (esC (eK (.int 3)) esN))))))))))))
def vE(X:XX C):SF:=(cC (aM (iF X) (esC (eN "numbers") esN)) (b3 2 (asC (aN "first") (asC (aN "second") asN))))
def vD(X:XX C):SF:=(cC (aM (iE X) (esC (eF (aT X) (aM X.c_SM4 (esC (eK .none) (esC (eN "first") (esC (eN "second") (esC (eK (.bool false)) esN))))) esN) esN)) (b3 2 (asC (aN "changes") (asC (aN "kept") asN))))
def vC(X:XX C):SF:=(aZ "matcher" (aM X.c_SM4 (esC (eK .none) (esC (eN "first") (esC (eN "second") (esC (eK (.bool false)) esN))))))
def vB(X:XX C):SF:=(eY (hV C) (iR (aM cY (esC (aB aI (aM aB9 (esC (eN "kept") esN)) (eK (.int 1))) (esC (i8 (eK (.int 1))) (esC (i8 (eK (.int 1))) esN))))) (aN "n") (aA (aZ "due" (mJ (cU C) [".0","begin","end"] (iL (aM (d0 X) (esC (eN "kept") (esC (eN "n") esN)))) (t5 2 (asC (aN "begin") (asC (aN "end") asN))) (tK true) (kY (aM (dF X) (esC (eN "changes") (esC (eN "kept") (esC (eN "n") (esC (eN "begin") (esC (eN "end") esN))))))))) (aA (aZ "told" (eIf (tE (aB (bG id) (eN "n") (eK (.int 3)))) (eF (bS X) (eN "matcher") esN) (eF (bY X) (eN "matcher") (esC (eN "n") esN)))) (aA (sIf (tE (aB (bG not) (aM (kB (l7 X.gc 6 X.gv) (λi=>i)) (esC (eN "told") esN)) (eN "due"))) (aA (f7 (eK (.bool false))) (sK .next)) (sK .next)) (sK .next)))))
def aEe(X:XX C):SF:=(f7 (eK (.bool true)))
def vG(X:XX C):SF:=(aA (vF X) (aA (vE X) (aA (vD X) (aA (vC X) (aA (vB X) (aA (aEe X) (sK .next)))))))
theorem sv_law(X:XX C)(P:Params)(L:Addr):SVs C 11 (callEnvC (aY (yY P)) L 279) (cL (stA 11)) (vG X):=cR (X.D1 [fn0 "_law_shown" (qN X) X.g__law_shown,fn0 "_law_cheapest" (gY X) X.g__law_cheapest,fn0 "_law_parts" (gG X) X.g__law_parts,fn0 "_law_lists" (eM X) X.g__law_lists]) rfl ⋯
def c_law(X:XX C):CF:=iK ["script"] [] (vG X)
theorem cv_law(X:XX C):CV C 12 (.ref 279) (c_law X):=CV.def_ X.d_law ⋯ X.b_law (λ_ _=>.nil) (cV ⋯) (λL=>sv_law X X.w.params L)
end
section
variable {a b c d e f g h i j k l:Int}{m n p q r s t u v w x y:Nat}
theorem Yj0:m<200->(0:Nat)+((2:Nat)*Int.toNat (((m:Nat):Int)-(0:Int))+(1:Nat)+(0:Nat))<=(1000:Nat):=Z.R 0x400010027e8f40f41f6803da28101102f80000f40006a3d07da00007 [] [m]
theorem Yj1:m<200->(2:Nat)*Int.toNat (((m:Nat):Int)-(0:Int))+(1:Nat)+(0:Nat)<=(1000:Nat):=Z.R 0x100004009fa3d03d07da00f68a040440be000006a3d07da00007 [] [m]
end
section
def av(l:List Int)(i:Int):Int:=l.getD i.toNat 0
def Mt(a b:List Int)(i j k:Int):Prop:=∀ t,0<=t->t<k->av a (i+t)=av b (j+t)
structure Wd where
 al:Int
 ah:Int
 bl:Int
 bh:Int
structure In(a b:List Int)(w:Wd)(i j k:Int):Prop where
 i0:w.al<=i
 i1:i+k<=w.ah
 j0:w.bl<=j
 j1:j+k<=w.bh
 k0:0<=k
 m:Mt a b i j k
def Ge(i j k i' j' k':Int):Prop:=k'<k\/(k'=k/\(i<i'\/(i=i'/\j<=j')))
structure Best(a b:List Int)(w:Wd)(i j k:Int):Prop where
 n:In a b w i j k
 z:k=0->i=w.al/\j=w.bl
 g:∀ i' j' k',In a b w i' j' k'->0<k'->Ge i j k i' j' k'
theorem Ge.anti{i j k i' j' k':Int}(h:Ge i j k i' j' k')(h':Ge i' j' k' i j k):i=i'/\j=j'/\k=k':=by
 rcases h with h |⟨e,h⟩
 ·rcases h' with h' |⟨e',_⟩
  ·exact absurd h (Int.lt_asymm h')
  ·exact absurd h (e'▸lt_irrefl _)
 ·rcases h' with h' |⟨_,h'⟩
  ·exact absurd h' (e▸lt_irrefl _)
  ·rcases h with h |⟨e1,h⟩
   ·rcases h' with h' |⟨e2,_⟩
    ·exact absurd h (Int.lt_asymm h')
    ·exact absurd h (e2▸lt_irrefl _)
   ·rcases h' with h' |⟨_,h'⟩
    ·exact absurd h' (e1▸lt_irrefl _)
    ·exact⟨e1,le_antisymm h h',e.symm⟩
theorem Ge.pos{i j k i' j' k':Int}(h:Ge i j k i' j' k')(h':0<k'):0<k:=by
 rcases h with h |⟨e,_⟩
 ·exact Int.lt_trans h' h
 ·exact e▸h'
theorem Best.uniq{a b:List Int}{w:Wd}{i j k i' j' k':Int}(h:Best a b w i j k)(h':Best a b w i' j' k'):i=i'/\j=j'/\k=k':=by
 refine Or.elim (Int.lt_or_eq_of_le h.n.k0) (λp=>?_) λp=>?_
 ·have q:=h'.g _ _ _ h.n p
  exact(h.g _ _ _ h'.n (q.pos p)).anti q
 ·refine Or.elim (Int.lt_or_eq_of_le h'.n.k0) (λp'=>?_) λp'=>?_
  ·exact absurd ((h.g _ _ _ h'.n p').pos p') (p▸lt_irrefl _)
  ·have z:=h.z p.symm;have z':=h'.z p'.symm
   exact⟨z.1.trans z'.1.symm,z.2.trans z'.2.symm,p.symm.trans p'⟩
structure Suf(a b:List Int)(w:Wd)(i j k:Int):Prop where
 k0:0<=k
 i0:w.al<=i-k+1
 j0:w.bl<=j-k+1
 m:Mt a b (i-k+1) (j-k+1) k
 x:w.al<=i-k->w.bl<=j-k->av a (i-k)≠av b (j-k)
theorem Suf.zero{a b:List Int}{w:Wd}{i j:Int}(hi:w.al<=i+1)(hj:w.bl<=j+1)(x:w.al<=i->w.bl<=j->av a i≠av b j):Suf a b w i j 0:=⟨Int.le_refl _,A128 hi,A128 hj,λt h1 h2=>absurd h2 (not_lt.mpr h1),by simpa using x⟩
theorem Suf.succ{a b:List Int}{w:Wd}{i j k:Int}(h:Suf a b w (i-1) (j-1) k)(e:av a i=av b j):Suf a b w i j (k+1):=by
 have e1:i-(k+1)=i-1-k:=A129
 have e2:j-(k+1)=j-1-k:=A129
 refine⟨Int.add_nonneg h.k0 (by decide),by rw[e1];exact h.i0,by rw[e2];exact h.j0,λt h1 h2=>?_,by rw[e1,e2];exact h.x⟩
 rw[e1,e2]
 by_cases q:t=k
 ·have a1:i-1-k+1+t=i:=A130 q
  have a2:j-1-k+1+t=j:=A131 a1
  rw[a1,a2];exact e
 ·exact h.m t h1 (A132 h2 q)
theorem Suf.max{a b:List Int}{w:Wd}{i j k i' j' k':Int}(h:Suf a b w i j k)(n:In a b w i' j' k')(e1:i'+k'=i+1)(e2:j'+k'=j+1):k'<=k:=by
 refine not_lt.mp λq=>?_
 have k0:=h.k0
 have m:=n.m (k'-1-k) (A133 q) (A134 k0)
 have a1:i'+(k'-1-k)=i-k:=A135 e1
 have a2:j'+(k'-1-k)=j-k:=A135 e2
 rw[a1,a2]at m
 exact h.x (by have:=n.i0;exact A136 q a1 this) (by have:=n.j0;exact A136 q a2 this) m
structure BU(a b:List Int)(w:Wd)(x y i j k:Int):Prop where
 n:In a b w i j k
 z:k=0->i=w.al/\j=w.bl
 e:0<k->i+k<=x\/(i+k=x+1/\j+k<=y)
 g:∀ i' j' k',In a b w i' j' k'->0<k'->(i'+k'<=x\/(i'+k'=x+1/\j'+k'<=y))->Ge i j k i' j' k'
theorem BU.start{a b:List Int}{w:Wd}(h1:w.al<=w.ah)(h2:w.bl<=w.bh):BU a b w w.al w.bl w.al w.bl 0:=by
 refine⟨⟨Int.le_refl _,A137 h1,Int.le_refl _,A137 h2,Int.le_refl _,λt h1 h2=>absurd h2 (not_lt.mpr h1)⟩,λ_=>⟨rfl,rfl⟩,λq=>absurd q (lt_irrefl _),λi' j' k' n q r=>?_⟩
 have:=n.i0;have:=n.j0;omega
theorem BU.skip{a b:List Int}{w:Wd}{x y y' i j k:Int}(h:BU a b w x y i j k)(hy:y<=y')(hn:∀ c,y<=c->c<y'->w.bl<=c->c<w.bh->av a x≠av b c):BU a b w x y' i j k:=by
 refine⟨h.n,h.z,λq=>(h.e q).imp_right λr=>⟨r.1,le_trans r.2 hy⟩,λi' j' k' n q r=>?_⟩
 by_cases p:i'+k'<=x\/(i'+k'=x+1/\j'+k'<=y)
 ·exact h.g i' j' k' n q p
 ·have m:=n.m (k'-1) (A138 q) A139
  have a1:i'+(k'-1)=x:=A140 r p
  rw[a1]at m
  exact absurd m (hn _ (A141 p a1) (A142 r a1) (by have:=n.j0;exact A143 q this) (by have:=n.j1;exact A144 this))
theorem BU.row{a b:List Int}{w:Wd}{x i j k:Int}(h:BU a b w x w.bh i j k):BU a b w (x+1) w.bl i j k:=by
 refine⟨h.n,h.z,λq=>.inl ?_,λi' j' k' n q r=>h.g i' j' k' n q ?_⟩
 ·refine Or.elim (h.e q) (λr=>?_) λr=>?_<;>omega
 ·have:=n.j0;have:=n.j1;omega
theorem BU.at{a b:List Int}{w:Wd}{x y i j k i' j' k':Int}(h:BU a b w x y i j k)(n:In a b w i' j' k')(r:0<k')(t:i'+k'<=x\/(i'+k'=x+1/\j'+k'<=y+1))(u: ¬(i'+k'<=x\/(i'+k'=x+1/\j'+k'<=y))):i'+k'=x+1/\j'+k'=y+1:=by
 rcases t with t |⟨t1,t2⟩
 ·exact absurd (.inl t) u
 ·exact⟨t1,le_antisymm t2 (not_lt.mp λq=>u (.inr ⟨t1,Int.le_of_lt_add_one q⟩))⟩
theorem BU.step{a b:List Int}{w:Wd}{x y i j k k1:Int}(h:BU a b w x y i j k)(s:Suf a b w x y k1)(hx:x<w.ah)(hy:y<w.bh)(p:0<k1):BU a b w x (y+1) (if k<k1 then x-k1+1 else i) (if k<k1 then y-k1+1 else j) (if k<k1 then k1 else k):=by
 by_cases q:k<k1
 ·simp only[if_pos q]
  refine⟨⟨s.i0,A145 hx,s.j0,A145 hy,s.k0,s.m⟩,λz=>by exact(A146 p z).elim,λ_=>.inr ⟨A147,A148⟩,λi' j' k' n r t=>?_⟩
  by_cases u:i'+k'<=x\/(i'+k'=x+1/\j'+k'<=y)
  ·rcases h.g i' j' k' n r u with v |⟨v,_⟩
   ·exact .inl (Int.lt_trans v q)
   ·exact .inl (v▸q)
  ·have e:=BU.at h n r t u
   refine Or.elim (Int.lt_or_eq_of_le (s.max n e.1 e.2)) (λv=>?_) λv=>?_
   ·exact .inl v
   ·exact .inr ⟨v,.inr ⟨A149 e v,A150 e v⟩⟩
 ·simp only[if_neg q]
  refine⟨h.n,h.z,λz=>(h.e z).imp_right λr=>⟨r.1,A151 r⟩,λi' j' k' n r t=>?_⟩
  by_cases u:i'+k'<=x\/(i'+k'=x+1/\j'+k'<=y)
  ·exact h.g i' j' k' n r u
  ·have e:=BU.at h n r t u
   have v:=le_trans (s.max n e.1 e.2) (not_lt.mp q)
   refine Or.elim (Int.lt_or_eq_of_le v) (λv=>?_) λv=>?_
   ·exact .inl v
   ·refine .inr ⟨v,?_⟩
    refine Or.elim (h.e (v▸r)) (λz=>?_) λz=>?_
    ·exact .inl (A152 e v z)
    ·exact .inr ⟨A153 e v z,A154 e v z⟩
theorem BU.done{a b:List Int}{w:Wd}{i j k:Int}(h:BU a b w w.ah w.bl i j k):Best a b w i j k:=⟨h.n,h.z,λi' j' k' n q=>h.g i' j' k' n q (.inl n.i1)⟩
def Row(a b:List Int)(w:Wd)(x y:Int)(g:Int->Option Int):Prop:=∀ c,if w.bl<=c/\c<y/\w.al<=x/\av a x=av b c then ∃ k,g c=some k/\Suf a b w x c k else g c=none
theorem Row.skip{a b:List Int}{w:Wd}{x y y':Int}{g:Int->Option Int}(h:Row a b w x y g)(hy:y<=y')(hn:∀ c,y<=c->c<y'->w.bl<=c->av a x≠av b c):Row a b w x y' g:=λc=>by
 have:=h c
 by_cases q:w.bl<=c/\c<y'/\w.al<=x/\av a x=av b c
 ·rw[if_pos q]
  by_cases r:c<y
  ·rwa [if_pos ⟨q.1,r,q.2.2⟩]at this
  ·exact absurd q.2.2.2 (hn c (not_lt.mp r) q.2.1 q.1)
 ·rw[if_neg q]
  rwa [if_neg λr=>q ⟨r.1,A155 hy r,r.2.2⟩]at this
theorem Row.step{a b:List Int}{w:Wd}{x y k:Int}{g:Int->Option Int}(h:Row a b w x y g)(hy:w.bl<=y)(hx:w.al<=x)(e:av a x=av b y)(s:Suf a b w x y k):Row a b w x (y+1) (λc=>if c=y then some k else g c):=λc=>by
 have:=h c
 by_cases q:c=y
 ·subst q
  rw[if_pos ⟨hy,A156,hx,e⟩]
  exact⟨k,if_pos rfl,s⟩
 ·dsimp only
  rw[if_neg q]
  by_cases r:w.bl<=c/\c<y/\w.al<=x/\av a x=av b c
  ·rw[if_pos r]at this
   rw[if_pos ⟨r.1,A157 r,r.2.2⟩];exact this
  ·rw[if_neg r]at this
   rw[if_neg λz=>r ⟨z.1,A158 q z,z.2.2⟩];exact this
theorem Row.next{a b:List Int}{w:Wd}{x y:Int}{g:Int->Option Int}(h:Row a b w (x-1) w.bh g)(hx:w.al<=x)(hy:w.bl<=y)(hy2:y<w.bh)(e:av a x=av b y):Suf a b w x y ((g (y-1)).getD 0+1):=by
 have:=h (y-1)
 refine Suf.succ ?_ e
 by_cases q:w.bl<=y-1/\y-1<w.bh/\w.al<=x-1/\av a (x-1)=av b (y-1)
 ·rw[if_pos q]at this
  refine xEA this λk h1 h2=>?_
  rw[h1];exact h2
 ·rw[if_neg q]at this
  rw[this]
  exact .zero (A159 hx) (A159 hy) λh1 h2 h3=>q ⟨h2,A160 hy2,h1,h3⟩
theorem Row.zero{a b:List Int}{w:Wd}{x y:Int}(h:x<w.al\/y<=w.bl):Row a b w x y (λ_=>none):=λc=>by
 rw[if_neg (A161 h)]
class inductive Idx(b:List Int)(v:Int):Int->List Int->Prop
 |nil {lo:Int} (h:∀ c:Int,lo<=c->c<b.length->av b c≠v):Idx b v lo []
 |cons {lo j:Int}{js:List Int} (h:lo<=j) (hl:j<b.length) (e:av b j=v) (n:∀ c:Int,lo<=c->c<j->av b c≠v) (r:Idx b v (j+1) js):Idx b v lo (j::js)
theorem Idx.no{b:List Int}{v y j:Int}{js:List Int}(h:Idx b v y (j::js)):∀ c,y<=c->c<j->av b c≠v:=by
 cases h with
 |cons _ _ _ n _=>exact n
end
section
structure WOk(a b:List Int)(w:Wd):Prop where
 a0:0<=w.al
 a1:w.al<=w.ah
 a2:w.ah<=a.length
 b0:0<=w.bl
 b1:w.bl<=w.bh
 b2:w.bh<=b.length
structure T3 where
 i:Int
 j:Int
 k:Int
def g7(w:Wd)(i j:Int)(q:List Wd):List Wd:=if w.al<i/\w.bl<j then⟨w.al,i,w.bl,j⟩::q else q
def iX(w:Wd)(i j k:Int)(q:List Wd):List Wd:=if i+k<w.ah/\j+k<w.bh then⟨i+k,w.ah,j+k,w.bh⟩::q else q
class inductive Run(a b:List Int):List Wd->List T3->List T3->Prop
 |nil {m:List T3}:Run a b [] m m
 |zero {w:Wd}{q:List Wd}{m r:List T3}{i j:Int} (B:Best a b w i j 0) (h:Run a b q m r):Run a b (w::q) m r
 |pos {w:Wd}{q:List Wd}{m r:List T3}{i j k:Int} (B:Best a b w i j k) (p:0<k) (h:Run a b (iX w i j k (g7 w i j q)) (m++[⟨i,j,k⟩]) r):Run a b (w::q) m r
theorem Run.uniq{a b:List Int}{q:List Wd}{m r r':List T3}(h:Run a b q m r)(h':Run a b q m r'):r=r':=by
 induction h with
 |nil=>cases h';rfl
 |zero B h ih=>
  cases h' with
  |zero B' h'=>exact ih h'
  |pos B' p h'=>exact absurd ((B.uniq B').2.2▸p) (lt_irrefl _)
 |pos B p h ih=>
  cases h' with
  |zero B' h'=>exact absurd ((B'.uniq B).2.2▸p) (lt_irrefl _)
  |pos B' p' h'=>
   refine xAA (B.uniq B') λe1 e2 e3=>?_
   subst e1 e2 e3
   exact ih h'
def wsz(w:Wd):Nat:=2*(w.ah-w.al).toNat+1
def mu:List Wd->Nat
 | []=>0
 |w::q=>wsz w+mu q
theorem mu_c(w:Wd)(q:List Wd):mu (w::q)=wsz w+mu q:=rfl
theorem s8:∀ q:List Wd,q.length<=mu q
 | []=>le_refl _
 |w::q=>by
  rw[mu_c,length_cons,add_comm]
  exact Nat.add_le_add (le_add_left _ _) (s8 q)
theorem uC{a b:List Int}{w:Wd}{i j k:Int}(h:WOk a b w)(B:Best a b w i j k){q:List Wd}(hq:∀ v∈q,WOk a b v):∀ v∈iX w i j k (g7 w i j q),WOk a b v:=by
 have i0:=B.n.i0;have i1:=B.n.i1;have j0:=B.n.j0;have j1:=B.n.j1;have k0:=B.n.k0
 have ik:=Int.add_le_add_left k0 i;have jk:=Int.add_le_add_left k0 j
 rw[add_zero]at ik jk
 have h1:∀ v∈g7 w i j q,WOk a b v:=λv hv=>by
  unfold g7 at hv
  split at hv
  ·refine Or.elim (mem_cons.mp hv) (λe=>?_) λe=>?_
   ·exact e▸⟨h.a0,i0,le_trans ik (le_trans i1 h.a2),h.b0,j0,le_trans jk (le_trans j1 h.b2)⟩
   ·exact hq v e
  ·exact hq v hv
 intro v hv
 unfold iX at hv
 split at hv
 ·refine Or.elim (mem_cons.mp hv) (λe=>?_) λe=>?_
  ·exact e▸⟨le_trans h.a0 (le_trans i0 ik),i1,h.a2,le_trans h.b0 (le_trans j0 jk),j1,h.b2⟩
  ·exact h1 v e
 ·exact h1 v hv
theorem mu_sub{a b:List Int}{w:Wd}{i j k:Int}(B:Best a b w i j k)(p:0<k)(q:List Wd):mu (iX w i j k (g7 w i j q))+1<=mu (w::q):=by
 have i0:=B.n.i0;have i1:=B.n.i1
 have e1:mu (g7 w i j q)<=2*(i-w.al).toNat+1+mu q:=by
  unfold g7
  split
  ·exact le_refl _
  ·exact le_add_left _ _
 have e2:mu (iX w i j k (g7 w i j q))<=2*(w.ah-(i+k)).toNat+1+mu (g7 w i j q):=by
  unfold iX
  split
  ·exact le_refl _
  ·exact le_add_left _ _
 have e3:mu (w::q)=2*(w.ah-w.al).toNat+1+mu q:=rfl
 exact A183 p i0 i1 e1 e2 e3
def nad(c:T3):List T3->List T3
 | []=>if c.k=0 then [] else [c]
 |x::xs=>if c.i+c.k=x.i/\c.j+c.k=x.j then nad ⟨c.i,c.j,c.k+x.k⟩ xs else(if c.k=0 then [] else [c])++nad x xs
theorem uP(c:T3):nad c []=if c.k=0 then [] else [c]:=rfl
theorem uQ(c x:T3)(xs:List T3):nad c (x::xs)=if c.i+c.k=x.i/\c.j+c.k=x.j then nad ⟨c.i,c.j,c.k+x.k⟩ xs else(if c.k=0 then [] else [c])++nad x xs:=rfl
end
section
variable {C:Cx}
noncomputable abbrev Nv:=List (Str×Option V)
def look(l:Nv):Lo:=λx=>match l.lookup x with |some o=>o |none=>none
def put(l:Nv)(x:Str)(v:V):Nv:=match l with
 | []=>[(x,some v)]
 | (y,u)::r=>bif x==y then(y,some v)::r else(y,u)::put r x v
theorem put_n(x:Str)(v:V):put [] x v= [(x,some v)]:=rfl
theorem put_c(y:Str)(u:Option V)(r:Nv)(x:Str)(v:V):put ((y,u)::r) x v=bif x==y then(y,some v)::r else(y,u)::put r x v:=rfl
theorem cT(y z:Str)(u:Option V)(r:Nv):((z,u)::r).lookup y=if y=z then some u else r.lookup y:=by
 rw[List.lookup]
 by_cases h:y=z
 ·subst h;rw[beq_self_eq_true,if_pos rfl]
 ·rw[if_neg h,show (y==z)=false by simpa using h]
theorem lW(x:Str)(v:V)(y:Str):∀ l:Nv,(put l x v).lookup y=if y=x then some (some v) else l.lookup y
 | []=>by rw[put_n,cT]
 | (z,u)::r=>by
  rw[put_c]
  by_cases h:x=z
  ·subst h
   rw[beq_self_eq_true,cond_true,cT,cT]
   by_cases h2:y=x
   ·rw[if_pos h2,if_pos h2]
   ·rw[if_neg h2,if_neg h2,if_neg h2]
  ·rw[show (x==z)=false by simpa using h,cond_false,cT,cT,lW]
   by_cases h2:y=z
   ·rw[if_pos h2,if_neg (λq=>h (q.symm.trans h2)),if_pos h2]
   ·rw[if_neg h2,if_neg h2]
theorem aD(l:Nv)(x:Str)(v:V):upd (look l) x v=look (put l x v):=by
 funext y
 show(if y=x then some v else _)=match (put l x v).lookup y with |some o=>o |none=>none
 rw[lW]
 by_cases h:y=x
 ·rw[if_pos h,if_pos h]
 ·rw[if_neg h,if_neg h];rfl
theorem kch{A B:Prop}(h:A=B)(b:B):A:=h.mpr b
structure GoK(I:Lo->MH->Prop)(Q K:SK):Prop where
 nx:∀ {lo H},I lo H->K .next lo H
 ct:∀ {lo H},I lo H->K .cont lo H
 br:∀ {lo H},Q .next lo H->K .brk lo H
 rt:∀ {v lo H},Q (.ret v) lo H->K (.ret v) lo H
theorem GoK.loop{I:Lo->MH->Prop}{Q:SK}{again:Lo->MH->SK->Prop}(h:∀ {lo H},I lo H->again lo H Q):GoK I Q (rN again Q):=⟨h,h,id,id⟩
theorem fR{tgt:AF}{body:SF}{r:Nat}{vs:List V}{Q:SK}(Inv:List V->Lo->MH->Prop)(hl:∀ {rest lo H},Inv rest lo H->lst H (.ref r)=some vs)(he:∀ {lo H},Inv [] lo H->Q .next lo H)(hs:∀ {v rest lo H K},Inv (v::rest) lo H->GoK (Inv rest) Q K->tgt v lo H λlo1 H1=>body lo1 H1 K):∀ (rest:List V) (p:Nat){lo:Lo}{H:MH},vs.drop p=rest->Inv rest lo H->cN (cU C) tgt body (rest.length+1) (r,p) lo H Q
 | [],p,lo,H,hd,h=>by
  refine Lf.mk (p:=none) ?_ (he h)
  show(lst H (.ref r)).map _=_
  rw[hl h,map_some,getElem?_eq_none (List.drop_eq_nil_iff.mp hd)];rfl
 |v::rest,p,lo,H,hd,h=>by
  have hv:vs[p]? =some v:=by rw[<-List.head?_drop,hd];rfl
  refine Lf.mk (p:=some (v,(r,p+1))) ?_ ?_
  ·show(lst H (.ref r)).map _=_
   rw[hl h,map_some,hv];rfl
  ·exact hs h (.loop λh'=>fR Inv hl he hs rest (p+1) (by rw[<-List.drop_drop,hd];rfl) h')
theorem jO{tgt:AF}{body:SF}{e:Int}{Q:SK}(Inv:Int->Lo->MH->Prop)(he:∀ {lo H},Inv e lo H->Q .next lo H)(hs:∀ {x lo H K},x<e->Inv x lo H->GoK (Inv (x+1)) Q K->tgt (.int x) lo H λlo1 H1=>body lo1 H1 K):∀ (n:Nat) (x:Int){lo:Lo}{H:MH},x+n=e->Inv x lo H->cN (hV C) tgt body (n+1) (x,n,1) lo H Q
 |0,x,lo,H,hd,h=>by
  have:x=e:=A162 hd
  subst this
  exact he h
 |n+1,x,lo,H,hd,h=>hs (A163 hd) h (.loop λh'=>jO Inv he hs n (x+1) (A164 hd) h')
theorem while_{t:TF}{b:SF}{Q:SK}(Inv:Nat->Lo->MH->Prop)(hs:∀ {m lo H},Inv m lo H->t lo H λc H1=>bif c then ∀ K,GoK (λlo' H'=>∃ m',m'<m/\Inv m' lo' H') Q K->b lo H1 K else Q .next lo H1)(mono:∀ {lo H}{P P':Bool->MH->Prop},t lo H P->(∀ c H',P c H'->P' c H')->t lo H P'):∀ (n m:Nat){lo:Lo}{H:MH},m<n->Inv m lo H->yL t b n lo H Q
 |0,_,_,_,hn,_=>absurd hn (Nat.not_lt_zero _)
 |n+1,m,lo,H,hn,h=>mono (hs h) λc H' p=>by
  cases c with
  |true=>exact p _ (.loop fun⟨m',h1,h2⟩=>while_ Inv hs mono n m' (Nat.lt_of_lt_of_le h1 (Nat.le_of_lt_succ hn)) h2)
  |false=>exact p
end
section
variable {C:Cx}
def LI(H:MH)(r:Nat)(l:List Int):Prop:=lst H (.ref r)=some (l.map V.int)
def Hx(H H':MH):Prop:=∀ (i:Nat) (m:MO),H[i]? =some m->H'[i]? =some m
theorem Hx.refl(H:MH):Hx H H:=λ_ _ e=>e
theorem Hx.trans{H1 H2 H3:MH}(a:Hx H1 H2)(b:Hx H2 H3):Hx H1 H3:=λi m e=>b i m (a i m e)
theorem Hx.app(H l:MH):Hx H (H++l):=λi m e=>by
 rw[List.getElem?_append_left (List.getElem?_eq_some_iff.mp e).1];exact e
theorem Hx.set{H H1:MH}{i:Nat}{m:MO}(h:Hx H H1)(hi:H[i]? =none):Hx H (H1.set i m):=λj x e=>by
 have:i≠j:=λq=>by rw[q,e]at hi;cases hi
 rw[getElem?_set_ne this];exact h j x e
theorem Hx.lst{H H':MH}{v:V}{vs:List V}(h:Hx H H')(e:lst H v=some vs):lst H' v=some vs:=by
 refine xEA (bind_eq_some_iff.mp e) λi hi e=>?_
 refine xEA (bind_eq_some_iff.mp e) λm hm e=>?_
 exact bind_eq_some_iff.mpr ⟨i,hi,bind_eq_some_iff.mpr ⟨m,h _ _ hm,e⟩⟩
theorem Hx.li{H H':MH}{r:Nat}{l:List Int}(h:Hx H H')(e:LI H r l):LI H' r l:=h.lst e
theorem bU(H:MH)(m:MO):(H++[m])[H.length]? =some m:=by simp
theorem jK(H:MH)(vs:List V):lst (H++[.list vs]) (.ref H.length)=some vs:=by
 show((H++[MO.list vs])[H.length]?).bind _=_
 rw[bU];rfl
theorem aQ(H:MH):H[H.length]? =none:=getElem?_eq_none (le_refl _)
def B2J(H:MH)(b:List Int)(f:Int->Option V):Prop:=∀ v,(f v=none/\Idx b v 0 [])\/∃ r js,f v=some (.ref r)/\LI H r js/\Idx b v 0 js
theorem B2J.hx{H H':MH}{b:List Int}{f:Int->Option V}(h:B2J H b f)(e:Hx H H'):B2J H' b f:=λv=>(h v).imp_right fun⟨r,js,h1,h2,h3⟩=>⟨r,js,h1,e.li h2,h3⟩
structure SM(H:MH)(s ra rb rd rj n:Nat)(fs:Str->Option V)(f:Int->Option V)(a b:List Int):Prop where
 o:H[s]? =some (.inst fs)
 fa:fs "a" =some (.ref ra)
 fb:fs "b" =some (.ref rb)
 fd:fs "b2j" =some (.ref rd)
 fj:fs "bjunk" =some (.ref rj)
 ia:LI H ra a
 ib:LI H rb b
 d:H[rd]? =some (.dict n f)
 j:H[rj]? =some .eset
 bj:B2J H b f
 al:a.length<1000000
 bl:b.length<1000000
theorem SM.hx{H H':MH}{s ra rb rd rj n:Nat}{fs:Str->Option V}{f:Int->Option V}{a b:List Int}(h:SM H s ra rb rd rj n fs f a b)(e:Hx H H'):SM H' s ra rb rd rj n fs f a b:=⟨e _ _ h.o,h.fa,h.fb,h.fd,h.fj,e.li h.ia,e.li h.ib,e _ _ h.d,e _ _ h.j,h.bj.hx e,h.al,h.bl⟩
theorem lL{x:Str}{lo:Lo}{H:MH}{Q:EK}{s:Nat}{fs:Str->Option V}{v:V}(h1:lo "self" =some (.ref s))(h2:H[s]? =some (.inst fs))(h3:fs x=some v)(q:Q v H):dY x (eN "self") lo H Q:=Lf.mk h1 (Lf.mk (p:=s) rfl (Lf.mk (p:=fs) (by rw[h2];rfl) (Lf.mk h3 q)))
theorem eO:∀ l:Nv,(l.all λp=>p.2.isNone)=true->look l=lo0
 | [],_=>rfl
 | (y,u)::r,h=>by
  rw[List.all_cons,Bool.and_eq_true]at h
  have ih:=eO r h.2
  funext x
  show(match ((y,u)::r).lookup x with |some o=>o |none=>none)=none
  rw[cT]
  by_cases q:x=y
  ·rw[if_pos q];exact Option.isNone_iff_eq_none.mp h.1
  ·rw[if_neg q];exact congrFun ih x
theorem jZ{f:EF}{g:AF}{lo:Lo}{H:MH}{K:SK}(h:f lo H λv H1=>g v lo H1 λlo' H2=>K .next lo' H2):cC f g lo H K:=h
theorem fH{x:Str}{f:EF}{lo:Lo}{H:MH}{K:SK}(h:f lo H λv H1=>K .next (upd lo x v) H1):aZ x f lo H K:=h
theorem jX{f:EF}{lo:Lo}{H:MH}{K:SK}(h:f lo H λv H1=>K (.ret v) lo H1):f7 f lo H K:=h
theorem aK{f g:SF}{lo:Lo}{H:MH}{K:SK}(h:f lo H (bE g K)):aA f g lo H K:=h
theorem nM{t:TF}{f g:SF}{lo:Lo}{H:MH}{K:SK}(h:t lo H λb H1=>bif b then f lo H1 K else g lo H1 K):sIf t f g lo H K:=h
theorem d8{g:EFs}{lo:Lo}{H:MH}{Q:EK}(h:g lo H λvs H1=>vs.length<100/\Q (.tup vs) H1):aW g lo H Q:=h
theorem eLst_i{g:EFs}{lo:Lo}{H:MH}{Q:EK}(h:g lo H λvs H1=>vs.length<1000000/\Q (.ref H1.length) (H1++[.list vs]))(mono:∀ {P P':List V->MH->Prop},g lo H P->(∀ vs H',P vs H'->P' vs H')->g lo H P'):d9 g lo H Q:=mono h λvs H' ⟨h1,h2⟩=>Lf.mk (p:=(.ref H'.length,H'++[.list vs])) (by rw[mkL,if_pos h1]) h2
theorem j4{lo:Lo}{H:MH}{Q:EK}(h:Q (.ref H.length) (H++[.list []])):d9 esN lo H Q:=eLst_i ⟨by decide,h⟩ λp k=>k _ _ p
theorem aL{f:EF}{g:EFs}{lo:Lo}{H:MH}{Q:List V->MH->Prop}(h:f lo H λv H1=>g lo H1 λvs H2=>Q (v::vs) H2):esC f g lo H Q:=h
theorem bW{lo:Lo}{H:MH}{Q:List V->MH->Prop}(h:Q [] H):esN lo H Q:=h
theorem bB{g:OpF}{f1 f2:EF}{lo:Lo}{H:MH}{Q:EK}(h:f1 lo H λa H1=>f2 lo H1 λb H2=>Lp (g a b H2) Q):aB g f1 f2 lo H Q:=h
theorem cJ{g:CF}{fs:EFs}{lo:Lo}{H:MH}{Q:EK}(h:fs lo H λvs H1=>g vs H1 Q):aM g fs lo H Q:=h
theorem eI{v:V}{lo:Lo}{H:MH}{Q:EK}(h:Q v H):eK v lo H Q:=h
theorem aU{x:Str}{lo:Lo}{H:MH}{Q:EK}{v:V}(e:lo x=some v)(h:Q v H):eN x lo H Q:=Lf.mk e h
theorem Lp.mk{o:Option (V×MH)}{Q:EK}{v:V}{H:MH}(e:o=some (v,H))(h:Q v H):Lp o Q:=Lf.mk e h
theorem bd_i{mk:Nat->V}{ok:MO->Bool}{f:EF}{lo:Lo}{H:MH}{Q:EK}(h:f lo H λa H1=>Lf a.rf λi=>Lf H1[i]? λm=>ok m=true/\Q (mk i) H1):eBd mk ok f lo H Q:=h
theorem jY{K:ItK C}{fi:IF K}{tgt:AF}{bf:SF}{lo:Lo}{H:MH}{Q:SK}(h:fi lo H λit H1=>∃ n,cN K tgt bf n it lo H1 Q):eY K fi tgt bf lo H Q:=h
def fE(s ra rb rd rj nt g:Option V)(al ah bl bh:Int)(bi bj bs i o2 o3 j k:Option V):Nv:=[("self",s),("alo",some (.int al)),("ahi",some (.int ah)),("blo",some (.int bl)),("bhi",some (.int bh)),("a",ra),("b",rb),("b2j",rd),("isbjunk",rj),("besti",bi),("bestj",bj),("bestsize",bs),("j2len",g),("nothing",nt),
  ("i",i),("j2lenget",o2),("newj2len",o3),("j",j),("k",k)]
def fN:Nv:=[("self",none),("alo",none),("ahi",none),("blo",none),("bhi",none),("a",none),("b",none),("b2j",none),("isbjunk",none),("besti",none),("bestj",none),("bestsize",none),("j2len",none),("nothing",none),
  ("i",none),("j2lenget",none),("newj2len",none),("j",none),("k",none)]
theorem flm_in(s al ah bl bh):loB ["self","alo","ahi","blo","bhi"] [s,.int al,.int ah,.int bl,.int bh] lo0=look (fE (some s) none none none none none none al ah bl bh none none none none none none none none):=by
 rw[<-eO fN ⋯]
 show upd (upd (upd (upd (upd (look fN) "self" s) "alo" (.int al)) "ahi" (.int ah)) "blo" (.int bl)) "bhi" (.int bh)=_
 rw[aD,aD,aD,aD,aD]
 kernel_rfl
theorem flm_1(X:XX C){H:MH}{s ra rb rd rj n:Nat}{fs:Str->Option V}{f:Int->Option V}{a b:List Int}{al ah bl bh:Int}{K:SK}(h:SM H s ra rb rd rj n fs f a b)(k:K .next (look (fE (some (.ref s)) (some (.ref ra)) (some (.ref rb)) (some (.ref rd)) (some (.scon rj)) none none al ah bl bh none none none none none none none none)) H):cI X (look (fE (some (.ref s)) none none none none none none al ah bl bh none none none none none none none none)) H K:=by
 unfold cI
 refine jZ (d8 (aL (lL ⋯ h.o h.fa (aL (lL ⋯ h.o h.fb (aL (lL ⋯ h.o h.fd (aL (bd_i (lL ⋯ h.o h.fj (Lf.mk (p:=rj) rfl (Lf.mk h.j ⟨rfl,bW ⟨Nat.lt_of_sub_eq_succ rfl,?_⟩⟩))))))))))))
 refine kch (B:=(4=4/\K .next (upd (upd (upd (upd (look (fE (some (.ref s)) none none none none none none al ah bl bh none none none none none none none none)) "a" (.ref ra)) "b" (.ref rb)) "b2j" (.ref rd)) "isbjunk" (.scon rj)) H)) ⋯ ⟨rfl,?_⟩
 rw[aD,aD,aD,aD]
 exact kch ⋯ k
end
section
variable {C:Cx}
structure FC where
 s:Nat
 ra:Nat
 rb:Nat
 rd:Nat
 rj:Nat
 nt:Nat
 w:Wd
def fL(c:FC)(g:Nat)(bi bj bs:Int)(i o2 o3 j k:Option V):Lo:=look (fE (some (.ref c.s)) (some (.ref c.ra)) (some (.ref c.rb)) (some (.ref c.rd)) (some (.scon c.rj)) (some (.ref c.nt)) (some (.ref g)) c.w.al c.w.ah c.w.bl c.w.bh (some (.int bi)) (some (.int bj)) (some (.int bs)) i o2 o3 j k)
def qO:SF:=aA (sIf (tE (aB (bC λx y=>decide (x<y)) (eN "j") (eN "blo"))) (aA (sK .cont) (sK .next)) (sK .next)) (aA (sIf (tE (aB (bC λx y=>decide (x>=y)) (eN "j") (eN "bhi"))) (aA (sK .brk) (sK .next)) (sK .next)) (aA (cC (aB aI (eCv (eN "j2lenget") (esC (aB cE (eN "j") (eK (.int 1))) (esC (eK (.int 0)) esN))) (eK (.int 1))) (fM (aN "k") (qS (eN "newj2len") (eN "j")))) (aA (sIf (tE (aB (bC λx y=>decide (x>y)) (eN "k") (eN "bestsize"))) (aA (cM ["besti","bestj","bestsize"] (aW (esC (aB aI (aB cE (eN "i") (eN "k")) (eK (.int 1))) (esC (aB aI (aB cE (eN "j") (eN "k")) (eK (.int 1))) (esC (eN "k") esN))))) (sK .next)) (sK .next)) (sK .next))))
def colB3:SF:=aA (cC (aB aI (eCv (eN "j2lenget") (esC (aB cE (eN "j") (eK (.int 1))) (esC (eK (.int 0)) esN))) (eK (.int 1))) (fM (aN "k") (qS (eN "newj2len") (eN "j")))) (aA (sIf (tE (aB (bC λx y=>decide (x>y)) (eN "k") (eN "bestsize"))) (aA (cM ["besti","bestj","bestsize"] (aW (esC (aB aI (aB cE (eN "i") (eN "k")) (eK (.int 1))) (esC (aB aI (aB cE (eN "j") (eN "k")) (eK (.int 1))) (esC (eN "k") esN))))) (sK .next)) (sK .next)) (sK .next))
def aB3:SF:=aA (sIf (tE (aB (bC λx y=>decide (x>y)) (eN "k") (eN "bestsize"))) (aA (cM ["besti","bestj","bestsize"] (aW (esC (aB aI (aB cE (eN "i") (eN "k")) (eK (.int 1))) (esC (aB aI (aB cE (eN "j") (eN "k")) (eK (.int 1))) (esC (eN "k") esN))))) (sK .next)) (sK .next)) (sK .next)
def wI(C:Cx):SF:=aA (aZ "j2lenget" (eBd .dget okD (eN "j2len"))) (aA (aZ "newj2len" n7) (aA (eY (cU C) (iL (eGet (eN "b2j") (aB aR (eN "a") (eN "i")) (eN "nothing"))) (aN "j") qO) (aA (aZ "j2len" (eN "newj2len")) (sK .next))))
variable {c:FC}{g gn:Nat}{bi bj bs x:Int}{o1 o2 o3 o4 o5:Option V}{K Q:SK}{H:MH}
theorem aEk{j:Int}:aN "j" (.int j) (fL c g bi bj bs o1 o2 o3 o4 o5) H (λlo1 H1=>qO lo1 H1 K)=qO (fL c g bi bj bs o1 o2 o3 (some (.int j)) o5) H K:=congrArg (λlo=>qO lo H K) (aD _ _ _)
theorem col_nf{j:Int}:qO (fL c g bi bj bs o1 o2 o3 (some (.int j)) o5) H K= (bif decide (j<c.w.bl) then K .cont (fL c g bi bj bs o1 o2 o3 (some (.int j)) o5) H else bif decide (j>=c.w.bh) then K .brk (fL c g bi bj bs o1 o2 o3 (some (.int j)) o5) H else colB3 (fL c g bi bj bs o1 o2 o3 (some (.int j)) o5) H K):=by rfl'
theorem tQ{i n:Nat}{f:Int->Option V}(h:H[i]? =some (.dict n f)):H[i]?.bind MO.dct=some (n,f):=by rw[h];rfl
theorem col3{j k:Int}{m n:Nat}{f fn:Int->Option V}(hg:H[g]? =some (.dict n f))(hn:H[gn]? =some (.dict m fn))(hm:m<1000000)(hk:(f (j-1)).getD (.int 0)= .int k)(h:aB3 (fL c g bi bj bs (some (.int x)) (some (.dget g)) (some (.ref gn)) (some (.int j)) (some (.int (k+1)))) (H.set gn (.dict (m+1) (dput fn j (.int (k+1))))) K):colB3 (fL c g bi bj bs (some (.int x)) (some (.dget g)) (some (.ref gn)) (some (.int j)) o5) H K:=by
 refine kch (B:=Lf (H[g]?.bind MO.dct) λd=>Lp (aI ((d.2 (j-1)).getD (.int 0)) (.int 1) H) λv H1=>Lf (oS (.ref gn) (.int j) v H1) λH3=>aB3 (upd (fL c g bi bj bs (some (.int x)) (some (.dget g)) (some (.ref gn)) (some (.int j)) o5) "k" v) H3 K) ⋯ ?_
 refine Lf.mk (tQ hg) (Lp.mk (v:=.int (k+1)) (H:=H) (by rw[hk];rfl) (Lf.mk (p:=H.set gn (.dict (m+1) (dput fn j (.int (k+1))))) ?_ ?_))
 ·show H[gn]?.bind (setO H gn j (.int (k+1)))=_
  rw[hn]
  exact if_pos hm
 ·unfold fL
  rw[aD]
  exact h
theorem col4{j k:Int}(h:K .next (fL c g (if bs<k then x-k+1 else bi) (if bs<k then j-k+1 else bj) (if bs<k then k else bs) (some (.int x)) o2 o3 (some (.int j)) (some (.int k))) H):aB3 (fL c g bi bj bs (some (.int x)) o2 o3 (some (.int j)) (some (.int k))) H K:=by
 refine kch (B:=(bif decide (k>bs) then((3<100)/\3=3/\K .next (upd (upd (upd (fL c g bi bj bs (some (.int x)) o2 o3 (some (.int j)) (some (.int k))) "bestsize" (.int k)) "bestj" (.int (j-k+1))) "besti" (.int (x-k+1))) H)
  else K .next (fL c g bi bj bs (some (.int x)) o2 o3 (some (.int j)) (some (.int k))) H)) ⋯ ?_
 by_cases q:bs<k
 ·rw[if_pos q,if_pos q,if_pos q]at h
  rw[show decide (k>bs)=true from decide_eq_true q]
  refine⟨by decide,rfl,?_⟩
  unfold fL
  rw[aD,aD,aD]
  exact h
 ·rw[if_neg q,if_neg q,if_neg q]at h
  rw[show decide (k>bs)=false from decide_eq_false q]
  exact h
inductive CI(a b:List Int)(c:FC)(g gn:Nat)(x v:Int)(Hr:MH)(rest:List V)(lo:Lo)(H:MH):Prop
 |mk {js:List Int}{y bi bj bs:Int}{m:Nat}{fn:Int->Option V}{gi:Int->Option Int}{o4 o5:Option V} (er:rest=js.map .int) (el:lo=fL c g bi bj bs (some (.int x)) (some (.dget g)) (some (.ref gn)) o4 o5) (hx:Hx Hr H) (hn:H[gn]? =some (.dict m fn))
   (hm:m+js.length<1000000) (hf:∀ c,fn c=(gi c).map V.int) (row:Row a b c.w x (max c.w.bl y) gi) (bu:BU a b c.w x (max c.w.bl y) bi bj bs) (ix:Idx b v y js) (yb:y<=c.w.bh):CI a b c g gn x v Hr rest lo H
inductive CE(a b:List Int)(c:FC)(g gn:Nat)(x:Int)(Hr:MH)(lo:Lo)(H:MH):Prop
 |mk {bi bj bs:Int}{m:Nat}{fn:Int->Option V}{gi:Int->Option Int}{o4 o5:Option V} (el:lo=fL c g bi bj bs (some (.int x)) (some (.dget g)) (some (.ref gn)) o4 o5) (hx:Hx Hr H) (hn:H[gn]? =some (.dict m fn)) (hf:∀ c,fn c=(gi c).map V.int)
   (row:Row a b c.w x c.w.bh gi) (bu:BU a b c.w x c.w.bh bi bj bs):CE a b c g gn x Hr lo H
theorem CE.of{a b:List Int}{Hr:MH}{lo:Lo}{m:Nat}{fn:Int->Option V}{gi:Int->Option Int}{y:Int}(el:lo=fL c g bi bj bs (some (.int x)) (some (.dget g)) (some (.ref gn)) o4 o5)(hx:Hx Hr H)(hn:H[gn]? =some (.dict m fn))(hf:∀ c,fn c=(gi c).map V.int)(row:Row a b c.w x (max c.w.bl y) gi) (bu:BU a b c.w x (max c.w.bl y) bi bj bs) (hn2:∀ z,y<=z->z<c.w.bh->av b z≠av a x) (hb:c.w.bl<=c.w.bh) (yb:y<=c.w.bh):CE a b c g gn x Hr lo H:=by
 have mb:max c.w.bl y<=c.w.bh:=Int.max_le.mpr ⟨hb,yb⟩
 exact .mk el hx hn hf (row.skip mb λz h1 h2 h3 h4=>hn2 z (le_trans (le_max_right _ _) h1) h2 h4.symm) (bu.skip mb λz h1 h2 h3 h4 h5=>hn2 z (le_trans (le_max_right _ _) h1) h2 h5.symm)
theorem Row.pos{a b:List Int}{w:Wd}{x y:Int}{g:Int->Option Int}(h:Row a b w x y g)(c:Int):0<=(g c).getD 0:=by
 have:=h c
 split at this
 ·refine xEA this λk e s=>?_;rw[e];exact s.k0
 ·rw[this];exact Int.le_refl _
theorem aB2{C:Cx}{a b:List Int}{n:Nat}{f:Int->Option V}{g0:Int->Option Int}{v:Int}{Hr:MH}{r:Nat}{js:List Int}{lo:Lo}(hg:Hr[g]? =some (.dict n f))(hf0:∀ c,f c=(g0 c).map V.int)(row0:Row a b c.w (x-1) c.w.bh g0)(hgn:Hr[gn]? =none) (hx0:c.w.al<=x) (hx1:x<c.w.ah) (hb:c.w.bl<=c.w.bh) (hbh:c.w.bh<=b.length) (hv:v=av a x) (hr:LI Hr r js) (h:CI a b c g gn x v Hr (js.map .int) lo H) (hQ:∀ {lo H},CE a b c g gn x Hr lo H->Q .next lo H):cN (cU C) (aN "j") qO ((js.map V.int).length+1) (r,0) lo H Q:=by
 subst hv
 refine fR (CI a b c g gn x (av a x) Hr) (λh=>?_) (λh=>?_) (λh G=>?_) _ 0 rfl h
 ·cases h with |mk _ _ hx=>exact hx.li hr
 ·cases h with
  |mk er el hx hn hm hf row bu ix yb=>
   cases List.map_eq_nil_iff.mp er.symm
   cases ix with
   |nil ix=>
   exact hQ (CE.of el hx hn hf row bu (λz h1 h2=>ix z h1 (lt_of_lt_of_le h2 hbh)) hb yb)
 ·cases h with
  | @mk js y bi bj bs m fn gi o4 o5 er el hx hn hm hf row bu ix yb=>
   refine bL (List.map_eq_cons_iff.mp er.symm) λj js' e1 e2 e3=>?_
   subst e1 e2 e3
   subst el
   refine kch aEk (kch col_nf ?_)
   have nn:=ix.no
   cases ix with
   |cons h1 hl e _ ix=>
   by_cases q:j<c.w.bl
   ·rw[decide_eq_true q]
    refine G.ct (.mk rfl rfl hx hn (Nat.lt_of_succ_lt hm) hf ?_ ?_ ix (le_trans (Int.add_one_le_of_lt q) hb))
    ·rw[max_eq_left (Int.add_one_le_of_lt q)]
     rwa [max_eq_left (le_of_lt (Int.lt_of_le_of_lt h1 q))]at row
    ·rw[max_eq_left (Int.add_one_le_of_lt q)]
     rwa [max_eq_left (le_of_lt (Int.lt_of_le_of_lt h1 q))]at bu
   ·rw[decide_eq_false q]
    by_cases q2:j>=c.w.bh
    ·rw[decide_eq_true q2]
     exact G.br (hQ (CE.of rfl hx hn hf row bu (λz h1 h2=>nn z h1 (lt_of_lt_of_le h2 q2)) hb yb))
    ·rw[decide_eq_false q2]
     have q:=not_lt.mp q
     have q2:=Int.not_le.mp q2
     have mj:max c.w.bl _<=j:=Int.max_le.mpr ⟨q,h1⟩
     have row2:=row.skip mj λz h1 h2 h3 h4=>nn z (le_trans (le_max_right _ _) h1) h2 h4.symm
     have bu2:=bu.skip mj λz h1 h2 h3 h4 h5=>nn z (le_trans (le_max_right _ _) h1) h2 h5.symm
     have sf:=row0.next hx0 q q2 e.symm
     have hk:(f (j-1)).getD (.int 0)= .int ((g0 (j-1)).getD 0):=by rw[hf0];cases g0 (j-1)<;>rfl
     have k0:0<(g0 (j-1)).getD 0+1:=Int.lt_add_one_of_le (Row.pos row0 _)
     refine col3 (hx _ _ hg) hn (lt_of_le_of_lt (Nat.le_add_right _ _) hm) hk (col4 (G.nx (.mk rfl rfl (hx.set hgn) (by rw[getElem?_set_self (List.getElem?_eq_some_iff.mp hn).1]) ?_ (gi:=λc=>if c=j then some ((g0 (j-1)).getD 0+1) else gi c) ?_ ?_ ?_ ix (Int.add_one_le_of_lt q2))))
     ·exact lt_of_le_of_lt (Nat.le_of_eq (Nat.add_right_comm _ _ _)) hm
     ·intro z
      unfold dput
      by_cases qz:z=j
      ·rw[if_pos qz,if_pos qz];rfl
      ·rw[if_neg qz,if_neg qz];exact hf z
     ·rw[Int.max_eq_right (le_trans q (Int.le_add_one (Int.le_refl j)))]
      exact row2.step q hx0 e.symm sf
     ·rw[Int.max_eq_right (le_trans q (Int.le_add_one (Int.le_refl j)))]
      exact bu2.step sf hx1 q2 k0
end
section
variable {C:Cx}{c:FC}{g gn:Nat}{bi bj bs x:Int}{o1 o2 o3 o4 o5:Option V}{K Q:SK}{H:MH}{a b:List Int}
theorem f6{x:Int}{n:Nat}(h0:0<=x)(h1:x<n):seqIndex? x n=some x.toNat:=by
 unfold seqIndex?
 rw[if_neg (not_lt.mpr h0)]
 exact if_pos (by rw[decide_eq_true h0,decide_eq_true h1];rfl)
theorem av_get{l:List Int}{x:Int}(h0:0<=x)(h1:x<l.length):(l.map V.int)[x.toNat]? =some (.int (av l x)):=by
 have:=(Int.toNat_lt h0).mpr h1
 unfold av
 rw[getElem?_map,getD_eq_getElem?_getD,getElem?_eq_getElem this];rfl
theorem gC{r:Nat}{l:List Int}{x:Int}(h:LI H r l)(h0:0<=x)(h1:x<l.length)(hl:l.length<1000000):aR (.ref r) (.int x) H=some (.int (av l x),H):=by
 show((lst H (.ref r)).bind (at_ x)).map _=_
 rw[h]
 show(at_ x (l.map V.int)).map _=_
 unfold at_
 rw[if_pos ⟨A165 h0,A166 h1 hl⟩,length_map,f6 h0 h1]
 show((l.map V.int)[x.toNat]?).map _=_
 rw[av_get h0 h1];rfl
theorem Idx.len{v y:Int}{js:List Int}(h:Idx b v y js)(hy:y<=b.length):y+js.length<=b.length:=by
 induction h with
 |nil _=>simpa using hy
 |cons h1 hl _ _ _ ih=>
  have:=ih (Int.add_one_le_of_lt hl)
  rw[length_cons]
  exact A167 h1 this
theorem aDd:aN "i" (.int x) (fL c g bi bj bs o1 o2 o3 o4 o5) H (λlo1 H1=>wI C lo1 H1 K)=wI C (fL c g bi bj bs (some (.int x)) o2 o3 o4 o5) H K:=congrArg (λlo=>wI C lo H K) (aD _ _ _)
def rowB3(C:Cx):SF:=aA (eY (cU C) (iL (eGet (eN "b2j") (aB aR (eN "a") (eN "i")) (eN "nothing"))) (aN "j") qO) (aA (aZ "j2len" (eN "newj2len")) (sK .next))
theorem row12{n:Nat}{f:Int->Option V}(hg:H[g]? =some (.dict n f))(h:rowB3 C (fL c g bi bj bs (some (.int x)) (some (.dget g)) (some (.ref H.length)) o4 o5) (H++[.dict 0 λ_=>Option.none]) K):wI C (fL c g bi bj bs (some (.int x)) o2 o3 o4 o5) H K:=by
 refine kch (B:=Lf H[g]? λm=>okD m=true/\rowB3 C (upd (upd (fL c g bi bj bs (some (.int x)) o2 o3 o4 o5) "j2lenget" (.dget g)) "newj2len" (.ref H.length)) (H++[.dict 0 λ_=>Option.none]) K) ⋯ (Lf.mk hg ⟨rfl,?_⟩)
 unfold fL
 rw[aD,aD]
 exact h
inductive RI(a b:List Int)(c:FC)(H2:MH)(x:Int)(lo:Lo)(H:MH):Prop
 |mk {g n:Nat}{bi bj bs:Int}{f:Int->Option V}{g0:Int->Option Int}{o1 o2 o3 o4 o5:Option V} (el:lo=fL c g bi bj bs o1 o2 o3 o4 o5) (hx:Hx H2 H) (hg:H[g]? =some (.dict n f)) (hf:∀ c,f c=(g0 c).map V.int)
   (row:Row a b c.w (x-1) c.w.bh g0) (bu:BU a b c.w x c.w.bl bi bj bs) (hx0:c.w.al<=x):RI a b c H2 x lo H
theorem yM{n:Nat}{fs:Str->Option V}{f:Int->Option V}{H2:MH}(h:SM H2 c.s c.ra c.rb c.rd c.rj n fs f a b)(ht:LI H2 c.nt [])(w:WOk a b c.w){lo:Lo}(hx1:x<c.w.ah)(I:RI a b c H2 x lo H)(G:GoK (RI a b c H2 (x+1)) Q K):aN "i" (.int x) lo H λlo1 H1=>wI C lo1 H1 K:=by
 cases I with
 | @mk g n0 bi bj bs f0 g0 o1 o2 o3 o4 o5 el hx hg hf row bu hx0=>
 subst el
 refine kch aDd (row12 hg ?_)
 have hx':Hx H (H++[.dict 0 λ_=>Option.none]):=.app _ _
 have h':=h.hx (hx.trans hx')
 refine kch (B:=(∃ n g,(H++[MO.dict 0 λ_=>Option.none])[c.rd]? =some (.dict n g))/\Lp (aR (.ref c.ra) (.int x) (H++[.dict 0 λ_=>Option.none])) λu H2=>Lf (Ti u) λv=>Lf (H2[c.rd]?.bind MO.dct) λp=>Lf ((p.2 v).getD (.ref c.nt)).rf λi=>(∃ vs,lst H2 (.ref i)=some vs)/\
  ∃ n,cN (cU C) (aN "j") qO n (i,0) (fL c g bi bj bs (some (.int x)) (some (.dget g)) (some (.ref H.length)) o4 o5) H2 (bE (aA (aZ "j2len" (eN "newj2len")) (sK .next)) K)) ⋯ ?_
 refine⟨⟨_,_,h'.d⟩,Lp.mk (gC h'.ia (le_trans w.a0 hx0) (lt_of_lt_of_le hx1 w.a2) h'.al) (Lf.mk (p:=av a x) rfl (Lf.mk (tQ h'.d) ?_))⟩
 have fin:∀ {lo H3},CE a b c g H.length x H lo H3->bE (aA (aZ "j2len" (eN "newj2len")) (sK .next)) K .next lo H3:=λ{lo H3} e=>by
  cases e with
  | @mk bi bj bs m fn gi o4 o5 el hx3 hn hf3 row3 bu3=>
  subst el
  refine kch (B:=K .next (upd (fL c g bi bj bs (some (.int x)) (some (.dget g)) (some (.ref H.length)) o4 o5) "j2len" (.ref H.length)) H3) ⋯ ?_
  refine G.nx (.mk (g:=H.length) (aD _ _ _) (hx.trans hx3) hn hf3 ?_ bu3.row (le_trans hx0 (Int.le_add_one (Int.le_refl _))))
  rw[Int.add_sub_cancel];exact row3
 have start:∀ {js:List Int},Idx b (av a x) 0 js->CI a b c g H.length x (av a x) H (js.map .int) (fL c g bi bj bs (some (.int x)) (some (.dget g)) (some (.ref H.length)) o4 o5) (H++[.dict 0 λ_=>Option.none]):=λ{js} ix=>
  .mk rfl rfl hx' (bU _ _) (by have:=ix.len (natCast_nonneg _);have:=h.bl;omega) (gi:=λ_=>Option.none) (λ_=>rfl) (.zero (.inr (Int.max_le.mpr ⟨Int.le_refl _,w.b0⟩))) (by rw[max_eq_left w.b0];exact bu) ix (le_trans w.b0 w.b1)
 have go:∀ {r:Nat}{js:List Int},LI H r js->Idx b (av a x) 0 js->Lf (V.ref r).rf λi=>(∃ vs,lst (H++[MO.dict 0 λ_=>Option.none]) (.ref i)=some vs)/\
   ∃ n,cN (cU C) (aN "j") qO n (i,0) (fL c g bi bj bs (some (.int x)) (some (.dget g)) (some (.ref H.length)) o4 o5) (H++[.dict 0 λ_=>Option.none]) (bE (aA (aZ "j2len" (eN "newj2len")) (sK .next)) K):=λhr ix=>
  ⟨⟨_,hx'.li hr⟩,_,aB2 hg hf row (aQ H) hx0 hx1 w.b1 w.b2 rfl hr (start ix) fin⟩
 rcases h.bj (av a x) with ⟨e,ix⟩ |⟨r,js,e,hr,ix⟩
 ·show Lf ((f (av a x)).getD (.ref c.nt)).rf _
  rw[e];exact go (hx.li ht) ix
 ·show Lf ((f (av a x)).getD (.ref c.nt)).rf _
  rw[e];exact go (hx.li hr) ix
end
section
variable {C:Cx}{c:FC}{g gn:Nat}{bi bj bs x:Int}{o1 o2 o3 o4 o5:Option V}{K Q:SK}{H:MH}{a b:List Int}
theorem aEg(H:MH)(x y:Int):eqv H (.int x) (.int y)=some (decide (x=y)):=by rfl'
theorem flm_26(X:XX C)(R:SF){s ra rb rd rj:Nat}{al ah bl bh:Int}(h:R (fL ⟨s,ra,rb,rd,rj,H.length+1,⟨al,ah,bl,bh⟩⟩ H.length al bl 0 none none none none none) ((H++[.dict 0 λ_=>Option.none])++[.list []]) K):aA (dW X) (aA (dV X) (aA (dU X) (aA (dT X) (aA (dR X) R)))) (look (fE (some (.ref s)) (some (.ref ra)) (some (.ref rb)) (some (.ref rd)) (some (.scon rj)) none none al ah bl bh none none none none none none none none)) H K:=by
 refine kch (B:=(3<100/\3=3/\R (upd (upd (upd (upd (upd (look (fE (some (.ref s)) (some (.ref ra)) (some (.ref rb)) (some (.ref rd)) (some (.scon rj)) none none al ah bl bh none none none none none none none none)) "bestsize" (.int 0)) "bestj" (.int bl)) "besti" (.int al)) "j2len" (.ref H.length)) "nothing" (.ref (H++[MO.dict 0 λ_=>Option.none]).length)) ((H++[.dict 0 λ_=>Option.none])++[.list []]) K)) ⋯ ⟨by decide,rfl,?_⟩
 rw[aD,aD,aD,aD,aD,show (H++[MO.dict 0 λ_=>Option.none]).length=H.length+1 from by simp]
 exact h
theorem flm_7(X:XX C){n:Nat}{fs:Str->Option V}{f:Int->Option V}(h:SM H c.s c.ra c.rb c.rd c.rj n fs f a b)(ht:LI H c.nt [])(hg:H[g]? =some (.dict 0 λ_=>Option.none))(w:WOk a b c.w)(k:∀ {g bi bj bs o1 o2 o3 o4 o5 H'},Hx H H'->Best a b c.w bi bj bs->K .next (fL c g bi bj bs o1 o2 o3 o4 o5) H'):dQ X (fL c g c.w.al c.w.bl 0 none none none none none) H K:=by
 refine kch (B:=(rOk c.w.al c.w.ah 1=true/\∃ n,cN (hV C) (aN "i") (wI C) n (c.w.al,oO c.w.al c.w.ah 1,1) (fL c g c.w.al c.w.bl 0 none none none none none) H K)) ⋯ ⟨?_,_,jO (e:=c.w.ah) (RI a b c H) (λr=>?_) (λhx r G=>yM h ht w hx r G) _ _ ?_ (.mk rfl (.refl H) hg (λ_=>rfl) (g0:=λ_=>Option.none) (.zero (.inl (Int.sub_one_lt_of_le (Int.le_refl _)))) (.start w.a1 w.b1) (Int.le_refl _))⟩
 ·have:=w.a0;have:=w.a1;have:=w.a2;have:=h.al
  unfold rOk
  rw[decide_eq_true (by omega: -1000000<c.w.al),decide_eq_true (by omega:c.w.al<1000000),decide_eq_true (by omega: -1000000<c.w.ah),decide_eq_true (by omega:c.w.ah<1000000)]
  rfl
 ·cases r with
  |mk el hx hg hf row bu hx0=>
   subst el
   exact k hx bu.done
 ·show c.w.al+((c.w.ah-c.w.al).toNat:Int)=c.w.ah
  have:=w.a1;exact A168 this
theorem ab_eq{ra rb:Nat}{i j:Int}{Q:Bool->MH->Prop}(ha:LI H ra a)(hb:LI H rb b)(al:a.length<1000000)(bl:b.length<1000000)(i0:0<=i)(i1:i<a.length)(j0:0<=j)(j1:j<b.length)(q:Q (decide (av a i=av b j)) H):Lp (aR (.ref ra) (.int i) H) λa H2=>Lp (aR (.ref rb) (.int j) H2) λb H3=>Lp (bG id a b H3) λv H4=>Lf (tr v H4) λc=>Q c H4:=Lp.mk (gC ha i0 i1 al) (Lp.mk (gC hb j0 j1 bl) (Lp.mk (v:=.bool (decide (av a i=av b j))) (H:=H) ⋯ (Lf.mk (p:=decide (av a i=av b j)) rfl q)))
theorem Best.left{w:Wd}{i j k:Int}(h:Best a b w i j k)(hi:w.al<i)(hj:w.bl<j):av a (i-1)≠av b (j-1):=λe=>by
 have n:=h.n
 have i0:=n.i0;have i1:=n.i1;have j0:=n.j0;have j1:=n.j1;have k0:=n.k0
 have g:=h.g (i-1) (j-1) (k+1) ⟨A169 hi,A170 i1,A169 hj,A170 j1,A171 k0,λt h1 h2=>?_⟩ (A172 k0)
 ·rcases g with g |⟨g,_⟩<;>omega
 ·by_cases q:t=0
  ·rw[q,add_zero,add_zero];exact e
  ·have:=n.m (t-1) (A173 h1 q) (A174 h2)
   rw[show i-1+t=i+(t-1) from A175,show j-1+t=j+(t-1) from A175];exact this
theorem Best.right{w:Wd}{i j k:Int}(h:Best a b w i j k)(hi:i+k<w.ah)(hj:j+k<w.bh):av a (i+k)≠av b (j+k):=λe=>by
 have n:=h.n
 have i0:=n.i0;have i1:=n.i1;have j0:=n.j0;have j1:=n.j1;have k0:=n.k0
 have g:=h.g i j (k+1) ⟨A176 i0,A177 hi,A176 j0,A177 hj,A171 k0,λt h1 h2=>?_⟩ (A172 k0)
 ·rcases g with g |⟨g,_⟩<;>omega
 ·by_cases q:t=k
  ·rw[q];exact e
  ·exact n.m t h1 (A132 h2 q)
theorem flm_8(X:XX C){n:Nat}{fs:Str->Option V}{f:Int->Option V}(h:SM H c.s c.ra c.rb c.rd c.rj n fs f a b)(w:WOk a b c.w)(B:Best a b c.w bi bj bs)(k:K .next (fL c g bi bj bs o1 o2 o3 o4 o5) H):dN X (fL c g bi bj bs o1 o2 o3 o4 o5) H K:=by
 refine⟨1,kch (B:=(bif decide (bi>c.w.al) then bif decide (bj>c.w.bl) then Lp (aR (.ref c.rb) (.int (bj-1)) H) λv H1=>Lf ((one [v]).bind Ti) λk=>H1[c.rj]? =some .eset/\
  (Lp (aR (.ref c.ra) (.int (bi-1)) H1) λa H2=>Lp (aR (.ref c.rb) (.int (bj-1)) H2) λb H3=>Lp (bG id a b H3) λv H4=>Lf (tr v H4) λt=>bif t then
   aA (cM ["besti","bestj","bestsize"] (aW (esC (aB cE (eN "besti") (eK (.int 1))) (esC (aB cE (eN "bestj") (eK (.int 1))) (esC (aB aI (eN "bestsize") (eK (.int 1))) esN))))) (sK .next) (fL c g bi bj bs o1 o2 o3 o4 o5) H4 (rN (λ_ _ _=>False) K)
   else K .next (fL c g bi bj bs o1 o2 o3 o4 o5) H4) else K .next (fL c g bi bj bs o1 o2 o3 o4 o5) H else K .next (fL c g bi bj bs o1 o2 o3 o4 o5) H)) ⋯ ?_⟩
 have i1:=B.n.i1;have j1:=B.n.j1;have k0:=B.n.k0;have a0:=w.a0;have a2:=w.a2;have b0:=w.b0;have b2:=w.b2
 by_cases q1:c.w.al<bi
 ·rw[decide_eq_true q1,cond_true]
  by_cases q2:c.w.bl<bj
  ·rw[decide_eq_true q2,cond_true]
   refine Lp.mk (gC h.ib (A178 b0 q2) (A179 j1 k0 b2) h.bl) (Lf.mk (p:=av b (bj-1)) rfl ?_)
   refine⟨h.j,ab_eq (Q:=λt H4=>bif t then _ else _) h.ia h.ib h.al h.bl (A178 a0 q1) (A179 i1 k0 a2) (A178 b0 q2) (A179 j1 k0 b2) ?_⟩
   rw[decide_eq_false (B.left q1 q2)]
   exact k
  ·rw[decide_eq_false q2];exact k
 ·rw[decide_eq_false q1];exact k
theorem flm_9(X:XX C){n:Nat}{fs:Str->Option V}{f:Int->Option V}(h:SM H c.s c.ra c.rb c.rd c.rj n fs f a b)(w:WOk a b c.w)(B:Best a b c.w bi bj bs)(k:K .next (fL c g bi bj bs o1 o2 o3 o4 o5) H):dM X (fL c g bi bj bs o1 o2 o3 o4 o5) H K:=by
 refine⟨1,kch (B:=(bif decide (bi+bs<c.w.ah) then bif decide (bj+bs<c.w.bh) then Lp (aR (.ref c.rb) (.int (bj+bs)) H) λv H1=>Lf ((one [v]).bind Ti) λk=>H1[c.rj]? =some .eset/\
  (Lp (aR (.ref c.ra) (.int (bi+bs)) H1) λa H2=>Lp (aR (.ref c.rb) (.int (bj+bs)) H2) λb H3=>Lp (bG id a b H3) λv H4=>Lf (tr v H4) λt=>bif t then
   aA (wH "bestsize" mU (eK (.int 1))) (sK .next) (fL c g bi bj bs o1 o2 o3 o4 o5) H4 (rN (λ_ _ _=>False) K)
   else K .next (fL c g bi bj bs o1 o2 o3 o4 o5) H4) else K .next (fL c g bi bj bs o1 o2 o3 o4 o5) H else K .next (fL c g bi bj bs o1 o2 o3 o4 o5) H)) ⋯ ?_⟩
 have i0:=B.n.i0;have j0:=B.n.j0;have i1:=B.n.i1;have j1:=B.n.j1;have k0:=B.n.k0;have a0:=w.a0;have a2:=w.a2;have b0:=w.b0;have b2:=w.b2
 by_cases q1:bi+bs<c.w.ah
 ·rw[decide_eq_true q1,cond_true]
  by_cases q2:bj+bs<c.w.bh
  ·rw[decide_eq_true q2,cond_true]
   refine Lp.mk (gC h.ib (A180 j0 k0 b0) (A181 b2 q2) h.bl) (Lf.mk (p:=av b (bj+bs)) rfl ?_)
   refine⟨h.j,ab_eq (Q:=λt H4=>bif t then _ else _) h.ia h.ib h.al h.bl (A180 i0 k0 a0) (A181 a2 q1) (A180 j0 k0 b0) (A181 b2 q2) ?_⟩
   rw[decide_eq_false (B.right q1 q2)]
   exact k
  ·rw[decide_eq_false q2];exact k
 ·rw[decide_eq_false q1];exact k
theorem flm_10(X:XX C){n:Nat}{fs:Str->Option V}{f:Int->Option V}(h:SM H c.s c.ra c.rb c.rd c.rj n fs f a b)(w:WOk a b c.w)(B:Best a b c.w bi bj bs)(k:K .next (fL c g bi bj bs o1 o2 o3 o4 o5) H):dD X (fL c g bi bj bs o1 o2 o3 o4 o5) H K:=by
 refine⟨1,kch (B:=(bif decide (bi>c.w.al) then bif decide (bj>c.w.bl) then Lp (aR (.ref c.rb) (.int (bj-1)) H) λv H1=>Lf ((one [v]).bind Ti) λk=>H1[c.rj]? =some .eset/\
  (K .next (fL c g bi bj bs o1 o2 o3 o4 o5) H1) else K .next (fL c g bi bj bs o1 o2 o3 o4 o5) H else K .next (fL c g bi bj bs o1 o2 o3 o4 o5) H)) ⋯ ?_⟩
 have i0:=B.n.i0;have j0:=B.n.j0;have i1:=B.n.i1;have j1:=B.n.j1;have k0:=B.n.k0;have a0:=w.a0;have a2:=w.a2;have b0:=w.b0;have b2:=w.b2
 by_cases q1:bi>c.w.al
 ·rw[decide_eq_true q1,cond_true]
  by_cases q2:bj>c.w.bl
  ·rw[decide_eq_true q2,cond_true]
   refine Lp.mk (gC h.ib (A178 b0 q2) (A179 j1 k0 b2) h.bl) (Lf.mk (p:=av b (bj-1)) rfl ?_)
   exact⟨h.j,k⟩
  ·rw[decide_eq_false q2];exact k
 ·rw[decide_eq_false q1];exact k
theorem flm_11(X:XX C){n:Nat}{fs:Str->Option V}{f:Int->Option V}(h:SM H c.s c.ra c.rb c.rd c.rj n fs f a b)(w:WOk a b c.w)(B:Best a b c.w bi bj bs)(k:K .next (fL c g bi bj bs o1 o2 o3 o4 o5) H):dB X (fL c g bi bj bs o1 o2 o3 o4 o5) H K:=by
 refine⟨1,kch (B:=(bif decide (bi+bs<c.w.ah) then bif decide (bj+bs<c.w.bh) then Lp (aR (.ref c.rb) (.int (bj+bs)) H) λv H1=>Lf ((one [v]).bind Ti) λk=>H1[c.rj]? =some .eset/\
  (K .next (fL c g bi bj bs o1 o2 o3 o4 o5) H1) else K .next (fL c g bi bj bs o1 o2 o3 o4 o5) H else K .next (fL c g bi bj bs o1 o2 o3 o4 o5) H)) ⋯ ?_⟩
 have i0:=B.n.i0;have j0:=B.n.j0;have i1:=B.n.i1;have j1:=B.n.j1;have k0:=B.n.k0;have a0:=w.a0;have a2:=w.a2;have b0:=w.b0;have b2:=w.b2
 by_cases q1:bi+bs<c.w.ah
 ·rw[decide_eq_true q1,cond_true]
  by_cases q2:bj+bs<c.w.bh
  ·rw[decide_eq_true q2,cond_true]
   refine Lp.mk (gC h.ib (A180 j0 k0 b0) (A181 b2 q2) h.bl) (Lf.mk (p:=av b (bj+bs)) rfl ?_)
   exact⟨h.j,k⟩
  ·rw[decide_eq_false q2];exact k
 ·rw[decide_eq_false q1];exact k
theorem flm_ok(X:XX C){s ra rb rd rj n:Nat}{fs:Str->Option V}{f:Int->Option V}{al ah bl bh:Int}{Q:EK}(h:SM H s ra rb rd rj n fs f a b)(w:WOk a b ⟨al,ah,bl,bh⟩)(k:∀ {i j k H'},Hx H H'->Best a b ⟨al,ah,bl,bh⟩ i j k->Q (.mat i j k) H'):bJ X [.ref s,.int al,.int ah,.int bl,.int bh] H Q:=by
 refine⟨rfl,?_⟩
 show cQ X (loB ["self","alo","ahi","blo","bhi"] [.ref s,.int al,.int ah,.int bl,.int bh] lo0) H (j3 Q)
 rw[flm_in]
 refine flm_1 X h (flm_26 X _ ?_)
 have e:=(Hx.app H [.dict 0 λ_=>Option.none]).trans (Hx.app _ [.list []])
 have h1:=h.hx e
 refine flm_7 X (c:=⟨s,ra,rb,rd,rj,H.length+1,⟨al,ah,bl,bh⟩⟩) h1 ?_ ?_ w λ{g bi bj bs o1 o2 o3 o4 o5 H'} e1 B=>?_
 ·have:=jK (H++[.dict 0 λ_=>Option.none]) []
  rw[length_append]at this
  exact this
 ·exact Hx.app _ _ _ _ (bU H _)
 have h2:=h1.hx e1
 exact flm_8 X h2 w B (flm_9 X h2 w B (flm_10 X h2 w B (flm_11 X h2 w B (kch (B:=Q (.mat bi bj bs) H') ⋯ (k (e.trans e1) B)))))
end
section
variable {C:Cx}
theorem bR{P Q:Prop}(h:Q):bif false then P else Q:=h
theorem bX{P Q:Prop}(h:P):bif true then P else Q:=h
theorem aAk{H:MH}{s:Nat}{fs:Str->Option V}(h:H[s]? =some (.inst fs)):H[s]?.bind MO.ins=some fs:=by rw[h];rfl
theorem aJ{H:MH}{i:Nat}{m:MO}(h:H[i]? =some m)(m':MO):(H.set i m')[i]? =some m':=by
 rw[getElem?_set_self (List.getElem?_eq_some_iff.mp h).1]
theorem aH{H:MH}{i j:Nat}{m m':MO}(h:H[j]? =some m)(n:i≠j):(H.set i m')[j]? =some m:=by
 rw[getElem?_set_ne n];exact h
def St(s:Nat)(x:Str)(v:V)(H:MH)(k:MH->Prop):Prop:=Lf (H[s]?.bind MO.ins) λfs=>k (H.set s (.inst (fput fs x v)))
def At(s:Nat)(x:Str)(H:MH)(k:V->Prop):Prop:=Lf (H[s]?.bind MO.ins) λfs=>Lf (fs x) k
theorem St.mk{s:Nat}{x:Str}{v:V}{H:MH}{k:MH->Prop}{fs:Str->Option V}(h:H[s]? =some (.inst fs))(q:k (H.set s (.inst (fput fs x v)))):St s x v H k:=Lf.mk (aAk h) q
theorem At.mk{s:Nat}{x:Str}{v:V}{H:MH}{k:V->Prop}{fs:Str->Option V}(h:H[s]? =some (.inst fs))(e:fs x=some v)(q:k v):At s x H k:=Lf.mk (aAk h) (Lf.mk e q)
def fs1(fs:Str->Option V)(r:Nat):Str->Option V:=fput (fput (fput fs "a" (.ref r)) "matching_blocks" .none) "opcodes" .none
theorem q9(X:XX C){H:MH}{s ra:Nat}{fs:Str->Option V}{Q:EK}(h:H[s]? =some (.inst fs))(ha:fs "a" =some .none)(k:Q .none (H.set s (.inst (fs1 fs ra)))):gQ X [.ref s,.ref ra] H Q:=by
 refine kch (B:=(2=2/\At s "a" H λv=>Lp (oIs id (.ref ra) v H) λv H1=>Lf (tr v H1) λb=>bif b then Q .none H1 else St s "a" (.ref ra) H1 λH2=>St s "matching_blocks" .none H2 λH3=>St s "opcodes" .none H3 λH4=>Q .none H4)) ⋯
  ⟨rfl,At.mk h ha (Lp.mk (v:=.bool false) (H:=H) rfl (Lf.mk (p:=false) rfl (bR (St.mk h (St.mk (aJ h _) (St.mk (aJ (aJ h _) _) ?_))))))⟩
 rw[set_set,set_set];exact k
def fs2(fs:Str->Option V)(r:Nat):Str->Option V:=fput (fput (fput (fput fs "b" (.ref r)) "matching_blocks" .none) "opcodes" .none) "fullbcount" .none
theorem q8(X:XX C){H:MH}{s rb:Nat}{fs:Str->Option V}{Q:EK}(h:H[s]? =some (.inst fs))(ha:fs "b" =some .none)(k:eP X [.ref s] (H.set s (.inst (fs2 fs rb))) λ_ H'=>Q .none H'):gP X [.ref s,.ref rb] H Q:=by
 refine kch (B:=(2=2/\At s "b" H λv=>Lp (oIs id (.ref rb) v H) λv H1=>Lf (tr v H1) λb=>bif b then Q .none H1 else St s "b" (.ref rb) H1 λH2=>St s "matching_blocks" .none H2 λH3=>St s "opcodes" .none H3 λH4=>St s "fullbcount" .none H4 λH5=>(∃ ff,H5[s]? =some (.inst ff))/\eP X [.ref s] H5 λ_ H'=>Q .none H')) ⋯
  ⟨rfl,At.mk h ha (Lp.mk (v:=.bool false) (H:=H) rfl (Lf.mk (p:=false) rfl (bR (St.mk h (St.mk (aJ h _) (St.mk (aJ (aJ h _) _) (St.mk (aJ (aJ (aJ h _) _) _) ?_)))))))⟩
 rw[set_set,set_set,set_set];exact⟨⟨_,aJ h _⟩,k⟩
def js(b:List Int)(v:Int):Nat->List Int
 |0=>[]
 |p+1=>js b v p++if av b p=v then [(p:Int)] else []
theorem js_c(b:List Int)(v:Int)(p:Nat):js b v (p+1)=js b v p++if av b p=v then [(p:Int)] else []:=rfl
theorem Idx.low{b js:List Int}{v lo:Int}(h:Idx b v (lo+1) js)(e:av b lo≠v):Idx b v lo js:=by
 have go:∀ c:Int,lo<=c->(lo+1<=c->av b c≠v)->av b c≠v:=λc h1 h2=>by
  rcases Int.lt_or_eq_of_le h1 with q |q
  ·exact h2 q
  ·exact q▸e
 cases h with
 |nil n=>exact .nil λc h1 h2=>go c h1 λq=>n c q h2
 |cons h1 h2 h3 n r=>exact .cons (le_trans (Int.le_add_one (Int.le_refl _)) h1) h2 h3 (λc a b=>go c a λq=>n c q b) r
theorem aAg{b:List Int}{v:Int}:∀ {p:Nat}{rest:List Int},p<=b.length->Idx b v p rest->Idx b v 0 (js b v p++rest)
 |0,_,_,h=>h
 |p+1,rest,hp,h=>by
  rw[js_c,append_assoc]
  refine aAg (Nat.le_of_succ_le hp) ?_
  by_cases q:av b p=v
  ·rw[if_pos q]
   exact .cons (Int.le_refl _) (Int.ofNat_lt.mpr hp) q (λc h1 h2=>absurd h2 (not_lt.mpr h1)) h
  ·rw[if_neg q]
   exact Idx.low h q
structure Bk(B:MH)(s rd:Nat)(b:List Int)(p:Nat)(f:Int->Option V)(H:MH):Prop where
 g:∀ v,(f v=none/\js b v p= [])\/∃ r,f v=some (.ref r)/\H[r]? =some (.list ((js b v p).map V.int))/\B[r]? =none/\r≠s/\r≠rd
 i:∀ v v' r,f v=some (.ref r)->f v'=some (.ref r)->v=v'
theorem Hx.fresh{B H:MH}(h:Hx B H):B[H.length]? =none:=by
 cases e:B[H.length]? with
 |none=>rfl
 |some m=>exact absurd (h _ _ e) (by rw[aQ];nofun)
theorem cG{H:MH}{i:Nat}{m:MO}(h:H[i]? =some m):H.length≠i:=λq=>by rw[<-q,aQ]at h;cases h
def fB(s rb rd i elt ind:Option V):Nv:=[("self",s),("b",rb),("b2j",rd),("i",i),("elt",elt),("indices",ind)]
inductive CBI(B:MH)(s rb rd:Nat)(fs:Str->Option V)(b:List Int)(p:Nat)(lo:Lo)(H:MH):Prop
 |mk {n:Nat}{f:Int->Option V}{o1 o2 o3:Option V} (el:lo=look (fB (some (.ref s)) (some (.ref rb)) (some (.ref rd)) o1 o2 o3)) (hx:Hx B H) (ho:H[s]? =some (.inst fs)) (hd:H[rd]? =some (.dict n f)) (hn:n<=p) (bk:Bk B s rd b p f H):CBI B s rb rd fs b p lo H
theorem uN{P:Option (V×(Nat×Nat))->MH->Prop}{r p:Nat}{vs:List V}{H:MH}{o:Option V}(hl:lst H (.ref r)=some vs)(e:vs[p]? =o)(h:P (o.map λv=>(.tup [.int p,v],(r,p+1))) H):(l8 C).nx (r,p) H P:=Lf.mk hl (by subst e;exact h)
theorem rW{tgt:AF}{body:SF}{r:Nat}{vs:List V}{Q:SK}(Inv:Nat->Lo->MH->Prop)(hl:∀ {p lo H},Inv p lo H->lst H (.ref r)=some vs)(he:∀ {lo H},Inv vs.length lo H->Q .next lo H)(hs:∀ {p v lo H K},vs[p]? =some v->Inv p lo H->GoK (Inv (p+1)) Q K->tgt (.tup [.int p,v]) lo H λlo1 H1=>body lo1 H1 K):∀ (k p:Nat){lo:Lo}{H:MH},p+k=vs.length->Inv p lo H->cN (l8 C) tgt body (k+1) (r,p) lo H Q
 |0,p,lo,H,hd,h=>by
  refine uN (o:=none) (hl h) (getElem?_eq_none (Nat.le_of_eq hd.symm)) ?_
  have e:p=vs.length:=hd
  subst e
  exact he h
 |k+1,p,lo,H,hd,h=>by
  have hp:p<vs.length:=A106 hd
  exact uN (o:=some vs[p]) (hl h) (getElem?_eq_getElem hp) (hs (getElem?_eq_getElem hp) h (.loop λh'=>rW Inv hl he hs k (p+1) (A109 hd) h'))
def chB:SF:=aA (aZ "indices" (vJ (eN "b2j") (eN "elt") (d9 esN))) (aA (aS (bZ (eN "indices") (eN "i"))) (sK .next))
def chT:AF:=b3 2 (asC (aN "i") (asC (aN "elt") asN))
section
variable {B:MH}{s rb rd:Nat}{fs:Str->Option V}{b:List Int}{p:Nat}{H:MH}
theorem Bk.old{f:Int->Option V}{r:Nat}{G:MH}(h:Bk B s rd b p f H)(hx:Hx H G)(e:f (av b p)=some (.ref r))(hs:H[s]? =some (.inst fs)):Bk B s rd b (p+1) f (G.set r (.list ((js b (av b p) p++[(p:Int)]).map V.int))):=by
 refine⟨λv=>?_,h.i⟩
 rw[js_c]
 by_cases q:av b p=v
 ·subst q
  rw[if_pos rfl]
  rcases h.g (av b p) with ⟨e1,_⟩ |⟨r',e1,h1,h2⟩
  ·rw[e]at e1;cases e1
  ·rw[e]at e1;cases e1
   exact .inr ⟨r,e,aJ (hx _ _ h1) _,h2⟩
 ·rw[if_neg q,append_nil]
  rcases h.g v with h1 |⟨r',e1,h1,h2⟩
  ·exact .inl h1
  ·exact .inr ⟨r',e1,aH (hx _ _ h1) λz=>q (h.i _ _ r (e) (z▸e1)),h2⟩
theorem Bk.new{f:Int->Option V}{n:Nat}(h:Bk B s rd b p f H)(hx:Hx B H)(e:f (av b p)=none)(hs:H[s]? =some (.inst fs))(hd:H[rd]? =some (.dict n f))(m:MO):Bk B s rd b (p+1) (dput f (av b p) (.ref H.length)) (((H++[MO.list []]).set rd m).set H.length (.list [.int p])):=by
 have nr:=cG hd
 have ns:=cG hs
 refine⟨λv=>?_,λv v' r h1 h2=>?_⟩
 ·rw[js_c]
  unfold dput
  by_cases q:v=av b p
  ·subst q
   rw[if_pos rfl,if_pos rfl]
   refine .inr ⟨_,rfl,?_,hx.fresh,ns,nr⟩
   rcases h.g (av b p) with ⟨_,e1⟩ |⟨r',e1,_⟩
   ·rw[e1];exact aJ (aH (bU _ _) nr.symm) _
   ·rw[e]at e1;cases e1
  ·rw[if_neg q,if_neg (λz=>q z.symm),append_nil]
   rcases h.g v with h1 |⟨r',e1,h1,h2⟩
   ·exact .inl h1
   ·exact .inr ⟨r',e1,aH (aH (Hx.app _ _ _ _ h1) h2.2.2.symm) (cG h1),h2⟩
 ·unfold dput at h1 h2
  have key:∀ v,f v≠some (.ref H.length):=λv z=>by
   rcases h.g v with ⟨e1,_⟩ |⟨r',e1,h1,_⟩
   ·rw[z]at e1;cases e1
   ·rw[z]at e1;cases e1;exact cG h1 rfl
  by_cases q:v=av b p
  ·by_cases q':v'=av b p
   ·exact q.trans q'.symm
   ·rw[if_pos q]at h1;rw[if_neg q']at h2;cases h1;exact absurd h2 (key _)
  ·by_cases q':v'=av b p
   ·rw[if_neg q]at h1;rw[if_pos q']at h2;cases h2;exact absurd h1 (key _)
   ·rw[if_neg q]at h1;rw[if_neg q']at h2;exact h.i _ _ _ h1 h2
end
end
section
variable {C:Cx}{B:MH}{s rb rd:Nat}{fs:Str->Option V}{b:List Int}{p:Nat}{H:MH}{K:SK}{lo:Lo}
theorem f8{r:Nat}{vs:List V}(h:H[r]? =some (.list vs)):H[r]?.bind MO.own=some vs:=by rw[h];rfl
theorem aX{r:Nat}{vs:List V}(h:H[r]? =some (.list vs)):lst H (.ref r)=some vs:=by
 show H[r]?.bind _=_
 rw[h];rfl
theorem yJ{x y:Str}{r:Nat}{vs:List V}{v:V}(hf:lo x=some (.ref r))(hg:lo y=some v)(h:H[r]? =some (.list vs))(hl:vs.length<1000000)(k:K .next lo (H.set r (.list (vs++[v])))):aS (bZ (eN x) (eN y)) lo H K:=Lf.mk hf (Lf.mk (p:=r) rfl ⟨⟨_,h⟩,Lf.mk hg (Lf.mk (f8 h) ⟨hl,k⟩)⟩)
theorem aAf(b:List Int)(v:Int):∀ p,(js b v p).length<=p
 |0=>le_refl _
 |p+1=>by
  rw[js_c,length_append]
  refine Nat.add_le_add (aAf b v p) ?_
  split
  ·exact le_refl 1
  ·exact zero_le 1
def chR(w:V)(lo:Lo)(K:SK)(H:MH):Prop:=aA (aS (bZ (eN "indices") (eN "i"))) (sK .next) (upd lo "indices" w) H K
theorem chR_i{r:Nat}{vs:List V}{v:V}(hi:upd lo "indices" (.ref r) "i" =some v)(h:H[r]? =some (.list vs))(hl:vs.length<1000000)(k:K .next (upd lo "indices" (.ref r)) (H.set r (.list (vs++[v])))):chR (.ref r) lo K H:=yJ (x:="indices") (y:="i") (lo:=upd lo "indices" (.ref r)) (K:=bE (sK .next) K) ⋯ hi h hl k
theorem ch_nf{v:Int}{o1 o2 o3:Option V}:(chT (.tup [.int p,.int v]) (look (fB (some (.ref s)) (some (.ref rb)) (some (.ref rd)) o1 o2 o3)) H λlo1 H1=>chB lo1 H1 K)= (2=2/\(∃ n g,H[rd]? =some (.dict n g))/\Lf ((H++[MO.list []])[rd]?.bind MO.dct) λq=>q.1<1000000/\match q.2 v with
   |some v'=>chR v' (upd (upd (look (fB (some (.ref s)) (some (.ref rb)) (some (.ref rd)) o1 o2 o3)) "i" (.int p)) "elt" (.int v)) K (H++[MO.list []])
   |none=>chR (.ref H.length) (upd (upd (look (fB (some (.ref s)) (some (.ref rb)) (some (.ref rd)) o1 o2 o3)) "i" (.int p)) "elt" (.int v)) K ((H++[MO.list []]).set rd (.dict (q.1+1) (dput q.2 v (.ref H.length))))):=by rfl'
theorem upd3{o1 o2 o3:Option V}(u v w:V):upd (upd (upd (look (fB (some (.ref s)) (some (.ref rb)) (some (.ref rd)) o1 o2 o3)) "i" u) "elt" v) "indices" w=look (fB (some (.ref s)) (some (.ref rb)) (some (.ref rd)) (some u) (some v) (some w)):=by
 rw[aD,aD,aD];kernel_rfl
theorem aEl{Q:SK}(hp:p<1000000)(hs:B[s]? =none)(hr:B[rd]? =none)(sr:s≠rd)(I:CBI B s rb rd fs b p lo H)(G:GoK (CBI B s rb rd fs b (p+1)) Q K):chT (.tup [.int p,.int (av b p)]) lo H λlo1 H1=>chB lo1 H1 K:=by
 cases I with
 | @mk n f o1 o2 o3 el hx ho hd hn bk=>
 subst el
 have hx':Hx H (H++[MO.list []]):=.app _ _
 have hl:=aAf b (av b p) p
 refine kch ch_nf ⟨rfl,⟨_,_,hd⟩,Lf.mk (tQ (hx' _ _ hd)) ⟨lt_of_le_of_lt hn hp,?_⟩⟩
 dsimp only
 rcases bk.g (av b p) with ⟨e,e2⟩ |⟨r,e,h1,h2,h3,h4⟩
 ·rw[e]
  have nr:=cG hd
  have ns:=cG ho
  refine chR_i (vs:=[]) (v:=.int p) ⋯ (aH (bU _ _) nr.symm) (by decide) (G.nx (.mk (n:=n+1) (upd3 _ _ _) ?_ ?_ ?_ (succ_le_succ hn) (bk.new hx e ho hd _)))
  ·exact((hx.trans hx').set hr).set hx.fresh
  ·exact aH (aH (hx' _ _ ho) sr.symm) ns
  ·exact aH (aJ (hx' _ _ hd) _) nr
 ·rw[e]
  refine chR_i (vs:=(js b (av b p) p).map V.int) (v:=.int p) ⋯ (hx' _ _ h1) (by rw[length_map];exact lt_of_le_of_lt hl hp) ?_
  rw[show (js b (av b p) p).map V.int++[V.int p]=(js b (av b p) p++[(p:Int)]).map V.int from by rw[map_append];rfl]
  refine G.nx (.mk (n:=n) (upd3 _ _ _) ?_ ?_ ?_ (le_succ_of_le hn) (bk.old hx' e ho))
  ·exact(hx.trans hx').set h2
  ·exact aH (hx' _ _ ho) h3
  ·exact aH (hx' _ _ hd) h4
theorem fB_0:upd (upd (upd lo0 "self" (.ref s)) "b" (.ref rb)) "b2j" (.ref rd)=look (fB (some (.ref s)) (some (.ref rb)) (some (.ref rd)) none none none):=by
 rw[<-eO (fB none none none none none none) ⋯,aD,aD,aD]
 kernel_rfl
def fs3(fs:Str->Option V)(rd rj rp:Nat):Str->Option V:=fput (fput (fput fs "b2j" (.ref rd)) "bjunk" (.ref rj)) "bpopular" (.ref rp)
theorem Bk.idx{f:Int->Option V}(h:Bk B s rd b b.length f H){H':MH}(k:∀ (r:Nat) (m:MO),H[r]? =some m->r≠s->H'[r]? =some m):B2J H' b f:=λv=>by
 have e:Idx b v 0 (js b v b.length):=by
  have:=aAg (b:=b) (v:=v) (rest:=[]) (le_refl b.length) (.nil λc h1 h2=>absurd h2 (not_lt.mpr h1))
  rwa [append_nil]at this
 rcases h.g v with ⟨h1,h2⟩ |⟨r,h1,h2,h3,h4,h5⟩
 ·exact .inl ⟨h1,h2▸e⟩
 ·exact .inr ⟨r,_,h1,aX (k _ _ h2 h4),e⟩
theorem Bk.nw{f:Int->Option V}{p:Nat}(h:Bk B s rd b p f H)(v:Int)(r:Nat)(e:f v=some (.ref r)):B[r]? =none:=by
 rcases h.g v with ⟨h1,h2⟩ |⟨r',h1,h2,h3,h4,h5⟩
 ·exact aG (h1.symm.trans e)
 ·cases h1.symm.trans e;exact h3
def vQ(X:XX C):SF:=aA (kT X) (aA (kS X) (aA (kR X) (aA (kQ X) (aA (kO X) (aA (kN X) (sK .next))))))
theorem aB5(X:XX C){Q:EK}{t:Bool}{n:Nat}{f:Int->Option V}{o1 o2 o3:Option V}(hs:B[s]? =none)(hx:Hx B H)(h:H[s]? =some (.inst fs))(hd:H[rd]? =some (.dict n f))(sr:s≠rd)(hb:LI B rb b)(bl:b.length<1000000)(bt:t=true->b.length<200)(ej:fs "isjunk" =some .none)(ea:fs "autojunk" =some (.bool t))(bk:Bk B s rd b b.length f H)(k:∀ {H' rj rp},Hx B H'->H'[s]? =some (MO.inst (fput (fput fs "bjunk" (.ref rj)) "bpopular" (.ref rp)))->H'[rd]? =some (.dict n f)->H'[rj]? =some .eset->B2J H' b f->(∀ v r,f v=some (.ref r)->B[r]? =none)->Q .none H'):vQ X (look (fB (some (.ref s)) (some (.ref rb)) (some (.ref rd)) o1 o2 o3)) H (j3 Q):=by
 refine kch (B:=(St s "bjunk" (.ref H.length) (H++[MO.eset]) λH3=>At s "isjunk" H3 λv=>Lf (tr v H3) λb=>bif b then False else St s "bpopular" (.ref H3.length) (H3++[MO.eset]) λH4=>
  Lp ((lst H4 (.ref rb)).bind λxs=>if xs.length<1000000 then some (.int xs.length,H4) else none) λn H5=>At s "autojunk" H5 λv=>Lf (tr v H5) λb=>bif b then(Lp (bC (λx y=>decide (x>=y)) n (.int 200) H5) λv H6=>Lf (tr v H6) λb=>bif b then False else Q .none H6) else Q .none H5)) ⋯ ?_
 have h1:=Hx.app H [MO.eset] _ _ h
 have s1:=aJ h1 (MO.inst (fput fs "bjunk" (.ref H.length)))
 have x1:=((hx.trans (.app H [MO.eset])).set (m:=.inst (fput fs "bjunk" (.ref H.length))) hs)
 refine St.mk h1 (At.mk s1 (v:=.none) ej (Lf.mk (p:=false) rfl (bR (St.mk (Hx.app _ [MO.eset] _ _ s1) ?_))))
 have s2:=aJ (Hx.app _ [MO.eset] _ _ s1) (MO.inst (fput (fput fs "bjunk" (.ref H.length)) "bpopular" (.ref ((H++[MO.eset]).set s (MO.inst (fput fs "bjunk" (.ref H.length)))).length)))
 have x2:=((x1.trans (.app _ [MO.eset])).set (m:=.inst (fput (fput fs "bjunk" (.ref H.length)) "bpopular" (.ref ((H++[MO.eset]).set s (MO.inst (fput fs "bjunk" (.ref H.length)))).length))) hs)
 have lb:=x2.li hb
 have key:∀ (r:Nat) (m:MO),(H++[MO.eset])[r]? =some m->r≠s->((((H++[MO.eset]).set s (MO.inst (fput fs "bjunk" (.ref H.length))))++[MO.eset]).set s (MO.inst (fput (fput fs "bjunk" (.ref H.length)) "bpopular" (.ref ((H++[MO.eset]).set s (MO.inst (fput fs "bjunk" (.ref H.length)))).length))))[r]? =some m:=λr m e n=>
  aH (Hx.app _ _ _ _ (aH e n.symm)) n.symm
 have fin:=k x2 s2 (key _ _ (Hx.app _ _ _ _ hd) sr.symm) (key _ _ (bU _ _) (cG h)) (bk.idx λr m e n=>key _ _ (Hx.app _ _ _ _ e) n) bk.nw
 refine Lp.mk (v:=.int b.length) (by rw[lb];show(if (b.map V.int).length<1000000 then _ else _)=_;rw[length_map,if_pos bl]) (At.mk s2 (v:=.bool t) ea (Lf.mk (p:=t) rfl ?_))
 cases t with
 |false=>exact fin
 |true=>
  refine bX (Lp.mk (v:=.bool (decide ((b.length:Int)>=200))) ⋯ (Lf.mk (p:=false) ?_ (bR fin)))
  rw[decide_eq_false (A182 (bt rfl))];rfl
theorem tV(X:XX C){Q:EK}{t:Bool}(h:H[s]? =some (.inst fs))(hx:Hx B H)(hs:B[s]? =none)(hb:LI B rb b)(bl:b.length<1000000)(bt:t=true->b.length<200)(eb:fs "b" =some (.ref rb))(ej:fs "isjunk" =some .none)(ea:fs "autojunk" =some (.bool t))(k:∀ {H' rd rj rp n f},Hx B H'->H'[s]? =some (MO.inst (fs3 fs rd rj rp))->H'[rd]? =some (.dict n f)->H'[rj]? =some .eset->B2J H' b f->(∀ v r,f v=some (.ref r)->B[r]? =none)->Q .none H'):eP X [.ref s] H Q:=by
 refine kch (B:=(1=1/\At s "b" H λv=>St s "b2j" (.ref H.length) (H++[.dict 0 λ_=>none]) λH2=>Lf v.rf λi=>(∃ vs,lst H2 (.ref i)=some vs)/\
  ∃ n,cN (l8 C) chT chB n (i,0) (upd (upd (upd lo0 "self" (.ref s)) "b" v) "b2j" (.ref H.length)) H2 (bE (vQ X) (j3 Q)))) ⋯ ?_
 have e1:=Hx.app H [.dict 0 λ_=>none]
 refine⟨rfl,At.mk h eb (St.mk (e1 _ _ h) (Lf.mk (p:=rb) rfl ?_))⟩
 have s1:=aJ (e1 _ _ h) (MO.inst (fput fs "b2j" (.ref H.length)))
 have x1:=(hx.trans e1).set (m:=.inst (fput fs "b2j" (.ref H.length))) hs
 have sr:s≠H.length:=(cG h).symm
 refine⟨⟨_,x1.li hb⟩,(b.map V.int).length+1,?_⟩
 rw[fB_0]
 refine rW (CBI B s rb H.length (fput fs "b2j" (.ref H.length)) b) (vs:=b.map V.int) (λI=>?_) (λI=>?_) (λ{p v lo H K} e I G=>?_) _ 0 (Nat.zero_add _) (.mk (n:=0) (f:=λ_=>none) rfl x1 s1 (aH (bU _ _) sr) (le_refl _) ⟨λv=>.inl ⟨rfl,rfl⟩,λv v' r h1 h2=>nomatch h1⟩)
 ·cases I with
  |mk el hx=>exact hx.li hb
 ·cases I with
  |mk el hx ho hd hn bk=>
   subst el
   rw[length_map]at bk
   exact aB5 X hs hx ho hd sr hb bl bt ej ea bk k
 ·rw[getElem?_map]at e
  obtain⟨x,h1,h2⟩:=map_eq_some_iff.mp e
  subst h2
  have:av b p=x:=by
   show b.getD p 0=x
   rw[getD_eq_getElem?_getD,h1];rfl
  subst this
  exact aEl (lt_trans (List.getElem?_eq_some_iff.mp h1).1 bl) hs hx.fresh sr I G
end
section
structure Bx(a b:List Int)(t:T3):Prop where
 p:0<t.k
 n:In a b ⟨0,a.length,0,b.length⟩ t.i t.j t.k
def T3.w(t:T3):Wd:=⟨t.i,t.i+t.k,t.j,t.j+t.k⟩
def Sep(x y:Wd):Prop:=(x.ah<=y.al/\x.bh<=y.bl)\/(y.ah<=x.al/\y.bh<=x.bl)
structure Sb(x y:Wd):Prop where
 a0:y.al<=x.al
 a1:x.ah<=y.ah
 b0:y.bl<=x.bl
 b1:x.bh<=y.bh
theorem Sep.symm{x y:Wd}(h:Sep x y):Sep y x:=Or.symm h
theorem Sep.sub{x y z:Wd}(h:Sep y z)(s:Sb x y):Sep x z:=h.imp (λh=>⟨le_trans s.a1 h.1,le_trans s.b1 h.2⟩) λh=>⟨le_trans h.1 s.a0,le_trans h.2 s.b0⟩
section
variable {a b:List Int}{w:Wd}{i j k:Int}{q:List Wd}
theorem wU(i:Int){k:Int}(h:0<=k):i<=i+k:=Int.le_add_of_nonneg_right h
theorem sb1(B:In a b w i j k):Sb ⟨w.al,i,w.bl,j⟩ w:=⟨Int.le_refl _,le_trans (wU i B.k0) B.i1,Int.le_refl _,le_trans (wU j B.k0) B.j1⟩
theorem sb2(B:In a b w i j k):Sb ⟨i+k,w.ah,j+k,w.bh⟩ w:=⟨le_trans B.i0 (wU i B.k0),Int.le_refl _,le_trans B.j0 (wU j B.k0),Int.le_refl _⟩
theorem sb3(B:In a b w i j k):Sb (T3.w ⟨i,j,k⟩) w:=⟨B.i0,B.i1,B.j0,B.j1⟩
theorem mem1{v:Wd}(h:v∈g7 w i j q):v=⟨w.al,i,w.bl,j⟩\/v∈q:=by
 unfold g7 at h
 split at h
 ·exact mem_cons.mp h
 ·exact .inr h
theorem mem2{v:Wd}(h:v∈iX w i j k q):v=⟨i+k,w.ah,j+k,w.bh⟩\/v∈q:=by
 unfold iX at h
 split at h
 ·exact mem_cons.mp h
 ·exact .inr h
theorem pw1(h:q.Pairwise Sep)(c:∀ v∈q,Sep ⟨w.al,i,w.bl,j⟩ v):(g7 w i j q).Pairwise Sep:=by
 unfold g7
 split
 ·exact pairwise_cons.mpr ⟨c,h⟩
 ·exact h
theorem pw2(h:q.Pairwise Sep)(c:∀ v∈q,Sep ⟨i+k,w.ah,j+k,w.bh⟩ v):(iX w i j k q).Pairwise Sep:=by
 unfold iX
 split
 ·exact pairwise_cons.mpr ⟨c,h⟩
 ·exact h
end
def SepT(x y:T3):Prop:=Sep x.w y.w
theorem Run.ok{a b:List Int}{q:List Wd}{m r:List T3}(h:Run a b q m r)(hw:∀ w∈q,WOk a b w)(hm:∀ t∈m,Bx a b t)(pq:q.Pairwise Sep)(pm:m.Pairwise SepT)(cr:∀ w∈q,∀ t∈m,Sep w t.w):(∀ t∈r,Bx a b t)/\r.Pairwise SepT:=by
 induction h with
 |nil=>exact⟨hm,pm⟩
 |zero B h ih=>
  exact ih (λv hv=>hw v (.tail _ hv)) hm (pairwise_cons.mp pq).2 pm λv hv=>cr v (.tail _ hv)
 | @pos w q m r i j k B p h ih=>
  have W:=hw w (.head _)
  have n:=B.n
  refine xA (pairwise_cons.mp pq) λpw pq=>?_
  have cl:∀ v∈g7 w i j q,v=⟨w.al,i,w.bl,j⟩\/v∈q:=λv hv=>mem1 hv
  have new:∀ v∈iX w i j k (g7 w i j q),Sep v (T3.w ⟨i,j,k⟩):=λv hv=>by
   refine Or.elim (mem2 hv) (λe=>?_) λe=>?_
   ·exact e▸ .inr ⟨Int.le_refl _,Int.le_refl _⟩
   ·refine Or.elim (cl v e) (λe=>?_) λe=>?_
    ·exact e▸ .inl ⟨Int.le_refl _,Int.le_refl _⟩
    ·exact((pw v e).sub (sb3 n)).symm
  refine ih (uC W B λv hv=>hw v (.tail _ hv)) (λt ht=>?_) (pw2 (pw1 pq λv hv=>(pw v hv).sub (sb1 n)) λv hv=>?_) (List.pairwise_append.mpr ⟨pm,List.pairwise_singleton _ _,λx hx y hy=>?_⟩) λv hv t ht=>?_
  ·refine Or.elim (mem_append.mp ht) (λe=>?_) λe=>?_
   ·exact hm t e
   ·cases mem_singleton.mp e
    exact⟨p,le_trans W.a0 n.i0,le_trans n.i1 W.a2,le_trans W.b0 n.j0,le_trans n.j1 W.b2,n.k0,n.m⟩
  ·refine Or.elim (cl v hv) (λe=>?_) λe=>?_
   ·exact e▸ .inr ⟨wU i n.k0,wU j n.k0⟩
   ·exact(pw v e).sub (sb2 n)
  ·cases mem_singleton.mp hy
   exact((cr w (.head _) x hx).sub (sb3 n)).symm
  ·refine Or.elim (mem_append.mp ht) (λe=>?_) λe=>?_
   ·refine Or.elim (mem2 hv) (λz=>?_) λz=>?_
    ·exact z▸(cr w (.head _) t e).sub (sb2 n)
    ·refine Or.elim (cl v z) (λz=>?_) λz=>?_
     ·exact z▸(cr w (.head _) t e).sub (sb1 n)
     ·exact cr v (.tail _ z) t e
   ·cases mem_singleton.mp e
    exact new v hv
theorem Run.ok0{a b:List Int}{r:List T3}(h:Run a b [⟨0,a.length,0,b.length⟩] [] r):(∀ t∈r,Bx a b t)/\r.Pairwise SepT:=h.ok (λw hw=>by
  cases mem_singleton.mp hw
  exact⟨Int.le_refl _,natCast_nonneg _,Int.le_refl _,Int.le_refl _,natCast_nonneg _,Int.le_refl _⟩) (λ_ h=>absurd h not_mem_nil) (List.pairwise_singleton _ _) .nil λ_ _ _ h=>absurd h not_mem_nil
class inductive CH(a b:List Int):Int->Int->List T3->Prop
 |nil {i j:Int}:CH a b i j []
 |cons {i j:Int}{t:T3}{l:List T3} (hi:i<=t.i) (hj:j<=t.j) (B:Bx a b t) (h:CH a b (t.i+t.k) (t.j+t.k) l):CH a b i j (t::l)
theorem CH.of{a b:List Int}:∀ {l:List T3}{i j:Int},(∀ t∈l,Bx a b t)->l.Pairwise SepT->l.Pairwise (λx y=>x.i<y.i)->(∀ t∈l,i<=t.i/\j<=t.j)->CH a b i j l
 | [],_,_,_,_,_,_=>.nil
 |t::l,i,j,hb,hs,hl,h0=>by
  refine xA (pairwise_cons.mp hs) λs1 s2=>?_
  refine xA (pairwise_cons.mp hl) λl1 l2=>?_
  have ht:=h0 t (.head _)
  refine .cons ht.1 ht.2 (hb t (.head _)) (CH.of (λx hx=>hb x (.tail _ hx)) s2 l2 λx hx=>?_)
  refine Or.elim (s1 x hx) (λs=>?_) λs=>?_
  ·exact s
  ·have p:=(hb x (.tail _ hx)).p
   have e:=lt_of_lt_of_le (l1 x hx) (le_trans (le_of_lt (Int.lt_add_of_pos_right x.i p)) s.1)
   exact absurd e (lt_irrefl _)
theorem CH.len{a b:List Int}{l:List T3}{i j:Int}(h:CH a b i j l)(hi:i<=a.length):i+l.length<=a.length:=by
 induction h with
 |nil=>simpa using hi
 | @cons i j t l h1 h2 B h ih=>
  have:=ih B.n.i1
  have p:=B.p
  rw[length_cons]
  exact A201 h1 this p
theorem jH:∀ (l:List T3) (c:T3),(nad c l).length<=l.length+1
 | [],c=>by
  rw[uP];split
  ·exact zero_le 1
  ·exact le_refl 1
 |x::l,c=>by
  rw[uQ];split
  ·exact le_succ_of_le (jH l _)
  ·rw[length_append,length_cons,add_comm]
   refine Nat.add_le_add (jH l x) ?_
   split
   ·exact zero_le 1
   ·exact le_refl 1
theorem Run.sorted{a b:List Int}{r:List T3}(h:Run a b [⟨0,a.length,0,b.length⟩] [] r):r.Pairwise (λx y=>x.i≠y.i)/\CH a b 0 0 (isort T3.i r):=by
 refine xA h.ok0 λh1 h2=>?_
 have ne:r.Pairwise (λx y=>x.i≠y.i):=h2.imp_of_mem λ{x y} hx hy s e=>by
  have px:=(h1 x hx).p;have py:=(h1 y hy).p
  refine Or.elim s (λs=>?_) λs=>?_
  ·exact absurd (lt_of_lt_of_le (Int.lt_add_of_pos_right x.i px) s.1) (e▸lt_irrefl _)
  ·exact absurd (lt_of_lt_of_le (Int.lt_add_of_pos_right y.i py) s.1) (e▸lt_irrefl _)
 have pm:=b7 T3.i r
 have h3:∀ t∈isort T3.i r,Bx a b t:=λt ht=>h1 t (pm.mem_iff.mp ht)
 exact⟨ne,.of h3 ((pm.pairwise_iff λ{x y} (s:SepT x y)=>s.symm).mpr h2) (l9 ne) λt ht=>⟨(h3 t ht).n.i0,(h3 t ht).n.j0⟩⟩
theorem Run.len{a b:List Int}{r:List T3}(h:Run a b [⟨0,a.length,0,b.length⟩] [] r):r.length<=a.length:=by
 have:=h.sorted.2.len (natCast_nonneg _)
 rw[(b7 T3.i r).length_eq]at this
 exact A202 this
end
section
set_option genCtorIdx true in
inductive Tg where |rep |del |ins |eq
structure Op where
 tag:Tg
 i1:Int
 i2:Int
 j1:Int
 j2:Int
def gap(i j i' j':Int):List Op:=if i<i' then if j<j' then [⟨.rep,i,i',j,j'⟩] else [⟨.del,i,i',j,j'⟩] else if j<j' then [⟨.ins,i,i',j,j'⟩] else []
def ops(i j:Int):List T3->List Op
 | []=>[]
 |t::l=>gap i j t.i t.j++((if t.k=0 then [] else [Op.mk .eq t.i (t.i+t.k) t.j (t.j+t.k)])++ops (t.i+t.k) (t.j+t.k) l)
theorem ops_n(i j:Int):ops i j []= []:=rfl
theorem kK(i j:Int)(t:T3)(l:List T3):ops i j (t::l)=gap i j t.i t.j++((if t.k=0 then [] else [Op.mk .eq t.i (t.i+t.k) t.j (t.j+t.k)])++ops (t.i+t.k) (t.j+t.k) l):=rfl
class inductive NA(a b:List Int):Bool->Int->Int->List T3->Prop
 |nil {f:Bool}{i j:Int}:NA a b f i j []
 |cons {f:Bool}{i j:Int}{t:T3}{l:List T3} (hi:i<=t.i) (hj:j<=t.j) (st:f=true->i<t.i\/j<t.j) (B:Bx a b t) (h:NA a b true (t.i+t.k) (t.j+t.k) l):NA a b f i j (t::l)
theorem Bx.nz{a b:List Int}{c:T3}(B:Bx a b c):c.k≠0:=λz=>absurd B.p (z▸lt_irrefl _)
theorem Bx.join{a b:List Int}{c x:T3}(B:Bx a b c)(X:Bx a b x)(e1:c.i+c.k=x.i)(e2:c.j+c.k=x.j):Bx a b ⟨c.i,c.j,c.k+x.k⟩:=by
 have n:=X.n
 have c0:=B.n.k0
 refine⟨Int.add_pos_of_pos_of_nonneg B.p n.k0,B.n.i0,?_,B.n.j0,?_,Int.add_nonneg c0 n.k0,λt h1 h2=>?_⟩
 ·show c.i+(c.k+x.k)<=_
  rw[<-add_assoc,e1];exact n.i1
 ·show c.j+(c.k+x.k)<=_
  rw[<-add_assoc,e2];exact n.j1
 ·by_cases q:t<c.k
  ·exact B.n.m t h1 q
  ·have:=n.m (t-c.k) (sub_nonneg_of_le (not_lt.mp q)) (Int.sub_left_lt_of_lt_add h2)
   rw[<-e1,<-e2,add_assoc,add_assoc,show c.k+(t-c.k)=t from A203]at this
   exact this
theorem jI{a b:List Int}:∀ {l:List T3}{c:T3}{f:Bool}{i j:Int},CH a b (c.i+c.k) (c.j+c.k) l->Bx a b c->i<=c.i->j<=c.j->(f=true->i<c.i\/j<c.j)->NA a b f i j (nad c l)
 | [],c,f,i,j,_,B,hi,hj,st=>by
  rw[uP,if_neg B.nz]
  exact .cons hi hj st B .nil
 |x::l,c,f,i,j,h,B,hi,hj,st=>by
  cases h with
  |cons h1 h2 X h=>
  rw[uQ]
  by_cases q:c.i+c.k=x.i/\c.j+c.k=x.j
  ·rw[if_pos q]
   refine jI (c:=⟨c.i,c.j,c.k+x.k⟩) ?_ (B.join X q.1 q.2) hi hj st
   show CH a b (c.i+(c.k+x.k)) (c.j+(c.k+x.k)) l
   rw[<-add_assoc,<-add_assoc,q.1,q.2];exact h
  ·rw[if_neg q,if_neg B.nz]
   refine .cons hi hj st B (jI h X h1 h2 λ_=>?_)
   by_cases q1:c.i+c.k=x.i
   ·exact .inr (Int.lt_iff_le_and_ne.mpr ⟨h2,λz=>q ⟨q1,z⟩⟩)
   ·exact .inl (Int.lt_iff_le_and_ne.mpr ⟨h1,q1⟩)
theorem zC{a b:List Int}{l:List T3}(h:CH a b 0 0 l):NA a b false 0 0 (nad ⟨0,0,0⟩ l):=by
 cases h with
 |nil=>exact .nil
 | @cons i j t l h1 h2 X h=>
  rw[uQ]
  show NA a b false 0 0 (if (0:Int)+0=t.i/\(0:Int)+0=t.j then nad ⟨0,0,0+t.k⟩ l else []++nad t l)
  by_cases q:(0:Int)+0=t.i/\(0:Int)+0=t.j
  ·rw[if_pos q]
   have e:(⟨0,0,0+t.k⟩:T3)=t:=by
    cases t
    cases q.1;cases q.2
    rw[zero_add];rfl
   rw[e]
   exact jI h X h1 h2 nofun
  ·rw[if_neg q]
   exact jI h X h1 h2 nofun
class inductive Cod(a b:List Int):Option Bool->Int->Int->List Op->Prop
 |nil {f:Option Bool}:Cod a b f a.length b.length []
 |eq {f:Option Bool}{i j k:Int}{l:List Op} (hf:f≠some true) (p:0<k) (m:Mt a b i j k) (h:Cod a b (some true) (i+k) (j+k) l):Cod a b f i j (⟨.eq,i,i+k,j,j+k⟩::l)
 |ch {f:Option Bool}{i j i' j':Int}{g:Tg}{l:List Op} (hf:f≠some false) (hg:g≠ .eq) (hi:i<=i') (hj:j<=j') (lt:i<i'\/j<j') (h:Cod a b (some false) i' j' l):Cod a b f i j (⟨g,i,i',j,j'⟩::l)
theorem Cod.gap{a b:List Int}{f:Option Bool}{i j i' j':Int}{l:List Op}(hf:f≠some false)(hi:i<=i')(hj:j<=j')(h1:i=i'->j=j'->Cod a b f i j l)(h2:Cod a b (some false) i' j' l):Cod a b f i j (Mine.gap i j i' j'++l):=by
 unfold Mine.gap
 by_cases q1:i<i'
 ·rw[if_pos q1]
  split
  ·exact .ch hf nofun hi hj (.inl q1) h2
  ·exact .ch hf nofun hi hj (.inl q1) h2
 ·rw[if_neg q1]
  by_cases q2:j<j'
  ·rw[if_pos q2];exact .ch hf nofun hi hj (.inr q2) h2
  ·rw[if_neg q2]
   exact h1 (le_antisymm hi (not_lt.mp q1)) (le_antisymm hj (not_lt.mp q2))
def fl(f:Bool):Option Bool:=if f=true then some true else none
theorem NA.cod{a b:List Int}{f:Bool}{i j:Int}{l:List T3}(h:NA a b f i j l)(hi:i<=a.length)(hj:j<=b.length):Cod a b (fl f) i j (ops i j (l++[⟨a.length,b.length,0⟩])):=by
 have nf:∀ f,fl f≠some false:=λf=>by cases f<;>nofun
 induction h with
 | @nil f i j=>
  refine Cod.gap (nf f) hi hj (λe1 e2=>?_) .nil
  rw[e1,e2];exact .nil
 | @cons f i j t l h1 h2 st B h ih=>
  have E:=ih B.n.i1 B.n.j1
  rw[cons_append,kK,if_neg B.nz]
  refine Cod.gap (nf f) h1 h2 (λe1 e2=>?_) (.eq nofun B.p B.n.m E)
  subst e1 e2
  refine .eq (λz=>?_) B.p B.n.m E
  cases f with
  |false=>cases z
  |true=>rcases st rfl with q |q<;>exact lt_irrefl _ q
end
section
variable {C:Cx}{H:MH}{s ra rb:Nat}{a b:List Int}{Q:EK}
theorem aDb(X:XX C){fs:Str->Option V}(h:H[s]? =some (.inst fs))(ha:fs "a" =some .none)(hb:fs "b" =some .none)(k:eP X [.ref s] (H.set s (.inst (fs2 (fs1 fs ra) rb))) λ_ H'=>Q .none H'):gO X [.ref s,.ref ra,.ref rb] H Q:=by
 refine kch (B:=(3=3/\(∃ ff,H[s]? =some (.inst ff))/\gQ X [.ref s,.ref ra] H λ_ H2=>(∃ ff,H2[s]? =some (.inst ff))/\gP X [.ref s,.ref rb] H2 λ_ H3=>Q .none H3)) ⋯ ⟨rfl,⟨_,h⟩,q9 X h ha ⟨⟨_,aJ h _⟩,q8 X (aJ h _) hb ?_⟩⟩
 rw[set_set];exact k
def fs0F:Str->Option V:=fput (fput (fput (fput (λ_=>none) "isjunk" .none) "a" .none) "b" .none) "autojunk" (.bool false)
def fsF(ra rb rd rj rp:Nat):Str->Option V:=fs3 (fs2 (fs1 fs0F ra) rb) rd rj rp
theorem aAm(X:XX C):qQ X [.ref s,.none,.ref ra,.ref rb,.bool false] H Q=(5=5/\St s "isjunk" .none H λH1=>St s "a" .none H1 λH2=>St s "b" .none H2 λH3=>St s "autojunk" (.bool false) H3 λH4=>(∃ ff,H4[s]? =some (.inst ff))/\gO X [.ref s,.ref ra,.ref rb] H4 λ_ H'=>Q .none H'):=by rfl'
theorem vZ(X:XX C)(ha:LI H ra a)(hb:LI H rb b)(al:a.length<1000000)(bl:b.length<1000000)(k:∀ {H' rd rj rp n f},Hx H H'->SM H' H.length ra rb rd rj n (fsF ra rb rd rj rp) f a b->(∀ v r,f v=some (.ref r)->H[r]? =none)->Q (.ref H.length) H'):X.c_SM4 [.none,.ref ra,.ref rb,.bool false] H Q:=by
 have h0:=bU H (.inst λ_=>none)
 have h1:=aJ h0 (.inst (fput (λ_=>none) "isjunk" .none))
 have h2:=aJ h1 (.inst (fput (fput (λ_=>none) "isjunk" .none) "a" .none))
 have h3:=aJ h2 (.inst (fput (fput (fput (λ_=>none) "isjunk" .none) "a" .none) "b" .none))
 have h4:=aJ h3 (.inst fs0F)
 have x:=Hx.app H [.inst λ_=>none]
 refine kch (aAm X) ⟨rfl,St.mk h0 (St.mk h1 (St.mk h2 (St.mk h3 ⟨⟨_,h4⟩,aDb X h4 ⋯ ⋯ ?_⟩)))⟩
 have h5:=aJ h4 (.inst (fs2 (fs1 fs0F ra) rb))
 refine tV X (B:=H) (t:=false) h5 (((((x.set (aQ H)).set (aQ H)).set (aQ H)).set (aQ H)).set (aQ H)) (aQ H) hb bl nofun ⋯ ⋯ ⋯ λ{H' rd rj rp n f} e1 e2 e3 e4 e5 e6=>⟨rfl,k (rp:=rp) (rd:=rd) (rj:=rj) e1 ⟨e2,by rfl',by rfl',by rfl',by rfl',e1.li ha,e1.li hb,e3,e4,e5,al,bl⟩ e6⟩
end
section
variable {C:Cx}{H:MH}{K Q:SK}{lo:Lo}{a b:List Int}
def Wd.v(w:Wd):V:=.tup [.int w.al,.int w.ah,.int w.bl,.int w.bh]
def T3.v(t:T3):V:=.mat t.i t.j t.k
def T3.t(t:T3):V:=.tup [.int t.i,.int t.j,.int t.k]
structure GC where
 s:Nat
 la:Int
 lb:Int
 q:Nat
 m:Nat
def fG(s la lb q m al ah bl bh i j k x:Option V):Nv:=[("self",s),("la",la),("lb",lb),("queue",q),("matching_blocks",m),("alo",al),("ahi",ah),("blo",bl),("bhi",bh),("i",i),("j",j),("k",k),("x",x),("i1",none),("j1",none),("k1",none),("non_adjacent",none),("i2",none),("j2",none),("k2",none)]
def gL(c:GC)(al ah bl bh i j k x:Option V):Lo:=look (fG (some (.ref c.s)) (some (.int c.la)) (some (.int c.lb)) (some (.ref c.q)) (some (.ref c.m)) al ah bl bh i j k x)
def gL'(c:GC)(w:Wd)(i j k x:Option V):Lo:=gL c (some (.int w.al)) (some (.int w.ah)) (some (.int w.bl)) (some (.int w.bh)) i j k x
def gI(X:XX C):SF:=aA (sIf (tE (eN "k")) (aA (aS (bZ (eN "matching_blocks") (eN "x"))) (aA (sIf (bV (tE (aB (bC λx y=>decide (x<y)) (eN "alo") (eN "i"))) (bV (tE (aB (bC λx y=>decide (x<y)) (eN "blo") (eN "j"))) (tK true))) (aA (aS (bZ (eN "queue") (aW (esC (eN "alo") (esC (eN "i") (esC (eN "blo") (esC (eN "j") esN))))))) (sK .next)) (sK .next)) (aA (sIf (bV (tE (aB (bC λx y=>decide (x<y)) (aB aI (eN "i") (eN "k")) (eN "ahi"))) (bV (tE (aB (bC λx y=>decide (x<y)) (aB aI (eN "j") (eN "k")) (eN "bhi"))) (tK true))) (aA (aS (bZ (eN "queue") (aW (esC (aB aI (eN "i") (eN "k")) (esC (eN "ahi") (esC (aB aI (eN "j") (eN "k")) (esC (eN "bhi") esN))))))) (sK .next)) (sK .next)) (sK .next)))) (sK .next)) (sK .next)
def gF(X:XX C):SF:=aA (cC (eF (bJ X) (eN "self") (esC (eN "alo") (esC (eN "ahi") (esC (eN "blo") (esC (eN "bhi") esN))))) (fM (b3 3 (asC (aN "i") (asC (aN "j") (asC (aN "k") asN)))) (aN "x"))) (gI X)
def gB(X:XX C):SF:=aA (cC (ePop (eN "queue")) (b3 4 (asC (aN "alo") (asC (aN "ahi") (asC (aN "blo") (asC (aN "bhi") asN)))))) (gF X)
theorem pop_i{x:Str}{r:Nat}{vs:List V}{v:V}{Q:EK}(hx:lo x=some (.ref r))(h:H[r]? =some (.list (vs++[v])))(hl:vs.length<999999)(k:Q v (H.set r (.list vs))):ePop (eN x) lo H Q:=by
 have e:(vs++[v]).length=vs.length+1:=by rw[length_append];rfl
 refine Lf.mk hx (Lf.mk (p:=r) rfl (Lf.mk (f8 h) ⟨by rw[e];exact Nat.succ_lt_succ hl,Lf.mk (p:=v) ?_ ?_⟩))
 ·rw[e,add_sub_cancel,getElem?_append_right (le_refl _),sub_self];rfl
 ·rw[e,add_sub_cancel,List.eraseIdx_append_of_length_le (le_refl _),sub_self]
  show Q v (H.set r (.list (vs++[])))
  rw[append_nil];exact k
theorem g9{x:Str}{r:Nat}{vs:List V}{v:V}{g:EF}(hx:lo x=some (.ref r))(hg:∀ (H:MH) (Q:EK),Q v H->g lo H Q)(h:H[r]? =some (.list vs))(hl:vs.length<1000000)(k:K .next lo (H.set r (.list (vs++[v])))):aS (bZ (eN x) g) lo H K:=Lf.mk hx (Lf.mk (p:=r) rfl ⟨⟨_,h⟩,hg _ _ (Lf.mk (f8 h) ⟨hl,k⟩)⟩)
inductive QI(a b:List Int)(c:GC)(G:MH)(n:Nat)(lo:Lo)(H:MH):Prop
 |mk {q:List Wd}{m:List T3}{al ah bl bh i j k x:Option V} (el:lo=gL c al ah bl bh i j k x) (hx:Hx G H) (hq:H[c.q]? =some (.list (q.reverse.map Wd.v))) (hm:H[c.m]? =some (.list (m.map T3.v)))
   (w:∀ v∈q,WOk a b v) (r:∀ r,Run a b q m r->Run a b [⟨0,c.la,0,c.lb⟩] [] r) (n1:mu q<=n) (n2:m.length+mu q<=1000):QI a b c G n lo H
theorem gB_pop{X:XX C}{c:GC}{w:Wd}{vs:List V}{al ah bl bh i j k x:Option V}(h:H[c.q]? =some (.list (vs++[w.v])))(hl:vs.length<999999)(q:gF X (gL' c w i j k x) (H.set c.q (.list vs)) K):gB X (gL c al ah bl bh i j k x) H K:=by
 refine aK (jZ (pop_i ⋯ h hl ?_))
 refine kch (B:=(4=4/\gF X (upd (upd (upd (upd (gL c al ah bl bh i j k x) "alo" (.int w.al)) "ahi" (.int w.ah)) "blo" (.int w.bl)) "bhi" (.int w.bh)) (H.set c.q (.list vs)) K)) ⋯ ⟨rfl,?_⟩
 unfold gL
 rw[aD,aD,aD,aD]
 exact q
theorem gF_nf{X:XX C}{c:GC}{w:Wd}{i j k x:Option V}:gF X (gL' c w i j k x) H K=((∃ ff,H[c.s]? =some (.inst ff))/\bJ X [.ref c.s,.int w.al,.int w.ah,.int w.bl,.int w.bh] H λv H2=> fM (b3 3 (asC (aN "i") (asC (aN "j") (asC (aN "k") asN)))) (aN "x") v (gL' c w i j k x) H2 λlo' H3=>gI X lo' H3 K):=by rfl'
theorem gF_set{X:XX C}{c:GC}{w:Wd}{i j k x:Option V}{t:T3}(q:gI X (gL' c w (some (.int t.i)) (some (.int t.j)) (some (.int t.k)) (some t.v)) H K):fM (b3 3 (asC (aN "i") (asC (aN "j") (asC (aN "k") asN)))) (aN "x") t.v (gL' c w i j k x) H λlo' H3=>gI X lo' H3 K:=by
 refine kch (B:=(3=3/\gI X (upd (upd (upd (upd (gL' c w i j k x) "i" (.int t.i)) "j" (.int t.j)) "k" (.int t.k)) "x" t.v) H K)) ⋯ ⟨rfl,?_⟩
 unfold gL' gL
 rw[aD,aD,aD,aD]
 exact q
def gP1:SF:=aA (aS (bZ (eN "queue") (aW (esC (eN "alo") (esC (eN "i") (esC (eN "blo") (esC (eN "j") esN))))))) (sK .next)
def gP2:SF:=aA (aS (bZ (eN "queue") (aW (esC (aB aI (eN "i") (eN "k")) (esC (eN "ahi") (esC (aB aI (eN "j") (eN "k")) (esC (eN "bhi") esN))))))) (sK .next)
def gJ:SF:=aA (sIf (bV (tE (aB (bC λx y=>decide (x<y)) (aB aI (eN "i") (eN "k")) (eN "ahi"))) (bV (tE (aB (bC λx y=>decide (x<y)) (aB aI (eN "j") (eN "k")) (eN "bhi"))) (tK true))) gP2 (sK .next)) (sK .next)
def gH:SF:=aA (sIf (bV (tE (aB (bC λx y=>decide (x<y)) (eN "alo") (eN "i"))) (bV (tE (aB (bC λx y=>decide (x<y)) (eN "blo") (eN "j"))) (tK true))) gP1 (sK .next)) gJ
def gA:SF:=aA (aS (bZ (eN "matching_blocks") (eN "x"))) gH
section
variable {X:XX C}{c:GC}{w:Wd}{t:T3}
def gT(c:GC)(w:Wd)(t:T3):Lo:=gL' c w (some (.int t.i)) (some (.int t.j)) (some (.int t.k)) (some t.v)
theorem gI_nf:gI X (gT c w t) H K=(bif t.k != 0 then gA (gT c w t) H K else K .next (gT c w t) H):=by rfl'
theorem gH_nf:gH (gT c w t) H K=(bif decide (w.al<t.i) then bif decide (w.bl<t.j) then gP1 (gT c w t) H (bE gJ K) else gJ (gT c w t) H K else gJ (gT c w t) H K):=by rfl'
theorem gJ_nf:gJ (gT c w t) H K=(bif decide (t.i+t.k<w.ah) then bif decide (t.j+t.k<w.bh) then gP2 (gT c w t) H K else K .next (gT c w t) H else K .next (gT c w t) H):=by rfl'
theorem gP1_i{vs:List V}(h:H[c.q]? =some (.list vs))(hl:vs.length<1000000)(k:K .next (gT c w t) (H.set c.q (.list (vs++[Wd.v ⟨w.al,t.i,w.bl,t.j⟩])))):gP1 (gT c w t) H K:=by
 unfold gP1
 exact aK (g9 (K:=bE (sK .next) K) ⋯ (λH Q q=>kch (B:=(4<100/\Q (Wd.v ⟨w.al,t.i,w.bl,t.j⟩) H)) ⋯ ⟨by decide,q⟩) h hl k)
theorem gP2_i{vs:List V}(h:H[c.q]? =some (.list vs))(hl:vs.length<1000000)(k:K .next (gT c w t) (H.set c.q (.list (vs++[Wd.v ⟨t.i+t.k,w.ah,t.j+t.k,w.bh⟩])))):gP2 (gT c w t) H K:=by
 unfold gP2
 exact aK (g9 (K:=bE (sK .next) K) ⋯ (λH Q q=>kch (B:=(4<100/\Q (Wd.v ⟨t.i+t.k,w.ah,t.j+t.k,w.bh⟩) H)) ⋯ ⟨by decide,q⟩) h hl k)
def Ex(H H':MH)(i:Nat):Prop:=∀ (j:Nat) (m:MO),i≠j->H[j]? =some m->H'[j]? =some m
theorem Ex.set{H:MH}{i:Nat}{m:MO}:Ex H (H.set i m) i:=λj x n e=>aH e n
theorem Ex.trans{H H1 H2:MH}{i:Nat}(h:Ex H H1 i)(h':Ex H1 H2 i):Ex H H2 i:=λj m n e=>h' j m n (h j m n e)
theorem Ex.hx{G H H':MH}{i:Nat}(h:Ex H H' i)(x:Hx G H)(hi:G[i]? =none):Hx G H':=λj m e=>h j m (λz=>by rw[z,e]at hi;cases hi) (x j m e)
theorem lU(q:List Wd)(w:Wd):(w::q).reverse.map Wd.v=q.reverse.map Wd.v++[w.v]:=by rw[List.reverse_cons,map_append];rfl
theorem qlen{q:List Wd}{n:Nat}(h:q.length<n):(q.reverse.map Wd.v).length<n:=by rw[length_map,List.length_reverse];exact h
theorem gJ_i{q:List Wd}(h:H[c.q]? =some (.list (q.reverse.map Wd.v)))(hl:q.length<1000000)(k:∀ {H'},H'[c.q]? =some (.list ((iX w t.i t.j t.k q).reverse.map Wd.v))->Ex H H' c.q->K .next (gT c w t) H'):gJ (gT c w t) H K:=by
 unfold iX at k
 refine kch gJ_nf ?_
 by_cases q1:t.i+t.k<w.ah
 ·by_cases q2:t.j+t.k<w.bh
  ·rw[if_pos ⟨q1,q2⟩,lU]at k
   rw[decide_eq_true q1,decide_eq_true q2]
   exact gP2_i h (qlen hl) (k (aJ h _) .set)
  ·rw[if_neg λz=>q2 z.2]at k
   rw[decide_eq_true q1,decide_eq_false q2]
   exact k h λ_ _ _ e=>e
 ·rw[if_neg λz=>q1 z.1]at k
  rw[decide_eq_false q1]
  exact k h λ_ _ _ e=>e
theorem gH_i{q:List Wd}(h:H[c.q]? =some (.list (q.reverse.map Wd.v)))(hl:q.length<999999)(k:∀ {H'},H'[c.q]? =some (.list ((iX w t.i t.j t.k (g7 w t.i t.j q)).reverse.map Wd.v))->Ex H H' c.q->K .next (gT c w t) H'):gH (gT c w t) H K:=by
 unfold g7 at k
 refine kch gH_nf ?_
 by_cases q1:w.al<t.i
 ·by_cases q2:w.bl<t.j
  ·rw[if_pos ⟨q1,q2⟩]at k
   rw[decide_eq_true q1,decide_eq_true q2]
   exact gP1_i h (qlen (lt_trans hl (by decide))) (gJ_i (K:=K) (q:=⟨w.al,t.i,w.bl,t.j⟩::q) (by rw[lU];exact aJ h _) (Nat.succ_lt_succ hl) λh1 e=>k h1 (Ex.set.trans e))
  ·rw[if_neg λz=>q2 z.2]at k
   rw[decide_eq_true q1,decide_eq_false q2]
   exact gJ_i h (lt_trans hl (by decide)) k
 ·rw[if_neg λz=>q1 z.1]at k
  rw[decide_eq_false q1]
  exact gJ_i h (lt_trans hl (by decide)) k
end
theorem oH{r:Nat}{vs:List V}(h:H[r]? =some (.list vs))(hl:vs.length<1000000):tr (.ref r) H=some (!vs.isEmpty):=by
 show(lst H (.ref r)).bind _=_
 rw[aX h]
 exact if_pos hl
theorem q_step(X:XX C){c:GC}{ra rb rd rj n N:Nat}{fs:Str->Option V}{f:Int->Option V}{G:MH}(S:SM G c.s ra rb rd rj n fs f a b)(gq:G[c.q]? =none)(gm:G[c.m]? =none)(qm:c.q≠c.m)(I:QI a b c G N lo H)(hQ:∀ {lo H},QI a b c G 0 lo H->Q .next lo H):tE (eN "queue") lo H λt H1=>bif t then ∀ K,GoK (λlo' H'=>∃ N',N'<N/\QI a b c G N' lo' H') Q K->gB X lo H1 K else Q .next lo H1:=by
 cases I with
 | @mk q m al ah bl bh i j k x el hx hq hm w r n1 n2=>
 subst el
 have ql:=s8 q
 have ql2:q.length<1000000:=A184 n2 ql
 refine aU (x:="queue") (v:=.ref c.q) (Q:=λv H1=>Lf (tr v H1) λt=>bif t then ∀ K,GoK (λlo' H'=>∃ N',N'<N/\QI a b c G N' lo' H') Q K->gB X (gL c al ah bl bh i j k x) H1 K else Q .next (gL c al ah bl bh i j k x) H1) ⋯ (Lf.mk (oH hq (qlen ql2)) ?_)
 cases q with
 |nil=>exact hQ (.mk rfl hx hq hm w r (le_refl _) n2)
 |cons w0 q=>
  rw[lU]at hq ⊢
  rw[show (!(q.reverse.map Wd.v++[w0.v]).isEmpty)=true by simp]
  intro K go
  have ql3:q.length<999999:=Nat.lt_of_succ_lt_succ ql2
  refine gB_pop (w:=w0) hq (qlen ql3) (kch gF_nf ?_)
  have x1:Hx G (H.set c.q (.list (q.reverse.map Wd.v))):=hx.set gq
  have S1:=S.hx x1
  have w0k:=w w0 (.head _)
  refine⟨⟨_,S1.o⟩,flm_ok X S1 w0k λ{i j k H2} e2 B=>gF_set (t:=⟨i,j,k⟩) ?_⟩
  have hq2:=e2 _ _ (aJ hq (.list (q.reverse.map Wd.v)))
  have hm2:=e2 _ _ (aH (m':=.list (q.reverse.map Wd.v)) hm qm)
  have x2:=x1.trans e2
  have wsz1:1<=wsz w0:=le_add_left _ _
  refine kch gI_nf ?_
  by_cases k0:k=0
  ·subst k0
   refine go.nx ⟨mu q,?_,.mk rfl x2 hq2 hm2 (λv hv=>w v (.tail _ hv)) (λr' h=>r r' (.zero B h)) (le_refl _) ?_⟩
   ·have:mu (w0::q)=wsz w0+mu q:=rfl
    exact A185 n1 wsz1 this
   ·have:mu (w0::q)=wsz w0+mu q:=rfl
    exact A186 n2 this
  ·have kp:0<k:=by have:=B.n.k0;exact A187 k0 this
   rw[show (k != 0)=true from bne_iff_ne.mpr k0]
   have ms:=mu_sub (w:=w0) B kp q
   refine bX (aK (yJ (r:=c.m) (v:=T3.v ⟨i,j,k⟩) ⋯ ⋯ hm2 (by rw[length_map];exact A188 n2) ?_))
   refine gH_i (K:=K) (aH hq2 qm.symm) ql3 λ{H'} h1 e=>go.nx ⟨_,Nat.lt_of_lt_of_le ms n1,.mk (m:=m++[⟨i,j,k⟩]) rfl (e.hx (x2.set gm) gq) h1 ?_ (uC w0k B λv hv=>w v (.tail _ hv)) (λr' h=>r r' (.pos B kp h)) (le_refl _) ?_⟩
   ·rw[map_append]
    exact e _ _ qm (aJ hm2 _)
   ·show(m++[_]).length+mu (iX w0 i j k (g7 w0 i j q))<=1000
    rw[length_append,length_singleton];exact A189 n2 ms
end
section
variable {C:Cx}{H:MH}{K Q:SK}{lo:Lo}{a b:List Int}
def nL(c:GC)(o1 o2 o3 o4 o5 o6 o7 o8:Option V)(t:T3)(na:Nat)(u1 u2 u3:Option V):Lo:=look [("self",some (.ref c.s)),("la",some (.int c.la)),("lb",some (.int c.lb)),("queue",some (.ref c.q)),("matching_blocks",some (.ref c.m)),("alo",o1),("ahi",o2),("blo",o3),("bhi",o4),("i",o5),("j",o6),("k",o7),("x",o8),
  ("i1",some (.int t.i)),("j1",some (.int t.j)),("k1",some (.int t.k)),("non_adjacent",some (.ref na)),("i2",u1),("j2",u2),("k2",u3)]
def nT:AF:=b3 3 (asC (aN "i2") (asC (aN "j2") (asC (aN "k2") asN)))
def nS:SF:=aA (cM ["i1","j1","k1"] (aW (esC (eN "i2") (esC (eN "j2") (esC (eN "k2") esN))))) (sK .next)
def nP:SF:=aA (aS (bZ (eN "non_adjacent") (aW (esC (eN "i1") (esC (eN "j1") (esC (eN "k1") esN)))))) (sK .next)
def nE:SF:=aA (sIf (tE (eN "k1")) nP (sK .next)) nS
def nB:SF:=aA (sIf (bV (tE (aB (bG id) (aB aI (eN "i1") (eN "k1")) (eN "i2"))) (bV (tE (aB (bG id) (aB aI (eN "j1") (eN "k1")) (eN "j2"))) (tK true))) (aA (wH "k1" mU (eN "k2")) (sK .next)) nE) (sK .next)
section
variable {c:GC}{o1 o2 o3 o4 o5 o6 o7 o8 u1 u2 u3:Option V}{t x:T3}{na:Nat}
def nX(c:GC)(o1 o2 o3 o4 o5 o6 o7 o8:Option V)(t:T3)(na:Nat)(x:T3):Lo:=nL c o1 o2 o3 o4 o5 o6 o7 o8 t na (some (.int x.i)) (some (.int x.j)) (some (.int x.k))
theorem nT_i(q:nB (nX c o1 o2 o3 o4 o5 o6 o7 o8 t na x) H K):nT x.v (nL c o1 o2 o3 o4 o5 o6 o7 o8 t na u1 u2 u3) H λlo1 H1=>nB lo1 H1 K:=by
 refine kch (B:=(3=3/\nB (upd (upd (upd (nL c o1 o2 o3 o4 o5 o6 o7 o8 t na u1 u2 u3) "i2" (.int x.i)) "j2" (.int x.j)) "k2" (.int x.k)) H K)) ⋯ ⟨rfl,?_⟩
 unfold nL
 rw[aD,aD,aD]
 exact q
theorem nB_nf:nB (nX c o1 o2 o3 o4 o5 o6 o7 o8 t na x) H K=(bif decide (t.i+t.k=x.i) then bif decide (t.j+t.k=x.j) then K .next (upd (nX c o1 o2 o3 o4 o5 o6 o7 o8 t na x) "k1" (.int (t.k+x.k))) H else nE (nX c o1 o2 o3 o4 o5 o6 o7 o8 t na x) H (bE (sK .next) K) else nE (nX c o1 o2 o3 o4 o5 o6 o7 o8 t na x) H (bE (sK .next) K)):=by rfl'
theorem nE_nf:nE (nX c o1 o2 o3 o4 o5 o6 o7 o8 t na x) H K=(bif t.k != 0 then nP (nX c o1 o2 o3 o4 o5 o6 o7 o8 t na x) H (bE nS K) else nS (nX c o1 o2 o3 o4 o5 o6 o7 o8 t na x) H K):=by rfl'
theorem nP_i{vs:List V}(h:H[na]? =some (.list vs))(hl:vs.length<1000000)(k:K .next (nL c o1 o2 o3 o4 o5 o6 o7 o8 t na u1 u2 u3) (H.set na (.list (vs++[t.t])))):nP (nL c o1 o2 o3 o4 o5 o6 o7 o8 t na u1 u2 u3) H K:=by
 unfold nP
 exact aK (g9 (K:=bE (sK .next) K) ⋯ (λH Q q=>kch (B:=(3<100/\Q t.t H)) ⋯ ⟨by decide,q⟩) h hl k)
theorem nS_i(q:K .next (nX c o1 o2 o3 o4 o5 o6 o7 o8 x na x) H):nS (nX c o1 o2 o3 o4 o5 o6 o7 o8 t na x) H K:=by
 refine kch (B:=(3<100/\3=3/\K .next (upd (upd (upd (nX c o1 o2 o3 o4 o5 o6 o7 o8 t na x) "k1" (.int x.k)) "j1" (.int x.j)) "i1" (.int x.i)) H)) ⋯ ⟨by decide,rfl,?_⟩
 unfold nX nL
 rw[aD,aD,aD]
 exact q
theorem nK_i{k:Int}(q:K .next (nX c o1 o2 o3 o4 o5 o6 o7 o8 ⟨t.i,t.j,k⟩ na x) H):K .next (upd (nX c o1 o2 o3 o4 o5 o6 o7 o8 t na x) "k1" (.int k)) H:=by
 unfold nX nL
 rw[aD]
 exact q
end
inductive NI(c:GC)(na:Nat)(G:MH)(all:List T3)(rest:List V)(lo:Lo)(H:MH):Prop
 |mk {o1 o2 o3 o4 o5 o6 o7 o8 u1 u2 u3:Option V}{t:T3}{acc l:List T3} (el:lo=nL c o1 o2 o3 o4 o5 o6 o7 o8 t na u1 u2 u3) (er:rest=l.map T3.v) (hx:Hx G H) (hn:H[na]? =some (.list (acc.map T3.t)))
   (e:acc++nad t l=all) (n:acc.length+l.length<=1000):NI c na G all rest lo H
theorem n_step{c:GC}{na:Nat}{G:MH}{all:List T3}{v:V}{rest:List V}(gn:G[na]? =none)(I:NI c na G all (v::rest) lo H)(go:GoK (NI c na G all rest) Q K):nT v lo H λlo1 H1=>nB lo1 H1 K:=by
 cases I with
 | @mk o1 o2 o3 o4 o5 o6 o7 o8 u1 u2 u3 t acc l el er hx hn e n=>
 refine bL (List.map_eq_cons_iff.mp er.symm) λx l' e1 e2 e3=>?_
 subst e1 e2 e3 el
 rw[length_cons]at n
 refine nT_i (kch nB_nf ?_)
 rw[uQ]at e
 have other: ¬(t.i+t.k=x.i/\t.j+t.k=x.j)->nE (nX c o1 o2 o3 o4 o5 o6 o7 o8 t na x) H (bE (sK .next) K):=λz=>by
  rw[if_neg z]at e
  refine kch nE_nf ?_
  by_cases q:t.k=0
  ·rw[if_pos q]at e
   rw[show (t.k != 0)=false from by rw[q];rfl]
   exact bR (nS_i (K:=bE (sK .next) K) (go.nx (.mk rfl rfl hx hn e (A190 n))))
  ·rw[if_neg q]at e
   rw[show (t.k != 0)=true from bne_iff_ne.mpr q]
   refine bX (nP_i (K:=bE nS (bE (sK .next) K)) hn (by rw[length_map];exact A191 n) (nS_i (K:=bE (sK .next) K) (go.nx (.mk (acc:=acc++[t]) rfl rfl (hx.set gn) ?_ ?_ ?_))))
   ·rw[map_append];exact aJ hn _
   ·rw[append_assoc];exact e
   ·rw[length_append,length_singleton];exact A192 n
 by_cases q1:t.i+t.k=x.i
 ·by_cases q2:t.j+t.k=x.j
  ·rw[if_pos ⟨q1,q2⟩]at e
   rw[decide_eq_true q1,decide_eq_true q2]
   exact nK_i (K:=K) (go.nx (.mk rfl rfl hx hn e (A190 n)))
  ·rw[decide_eq_true q1,decide_eq_false q2]
   exact other λz=>q2 z.2
 ·rw[decide_eq_false q1]
  exact other λz=>q1 z.1
end
section
variable {C:Cx}{H:MH}{a b:List Int}
theorem aDn{P:Option (V×(Nat×Nat))->MH->Prop}{hm:mQ C 2}{r p:Nat}{vs:List V}(hl:lst H (.ref r)=some vs)(e:vs[p]? =none)(h:P none H):(pK C 2 hm).nx (r,p) H P:=Lf.mk hl (by show(match vs[p]? with |none=>P none H |some v=>_);rw[e];exact h)
theorem aDm{P:Option (V×(Nat×Nat))->MH->Prop}{hm:mQ C 2}{r p:Nat}{vs:List V}{t:T3}(hl:lst H (.ref r)=some vs)(e:vs[p]? =some t.t)(h:P (some (t.v,(r,p+1))) H):(pK C 2 hm).nx (r,p) H P:=Lf.mk hl (by show(match vs[p]? with |none=>P none H |some v=>Lf (t3 v) λq=>P (some (.mat q.1 q.2.1 q.2.2,(r,p+1))) H);rw[e];exact h)
theorem uU{hm:mQ C 2}{G:MH}{na ai:Nat}{l:List T3}{P:MH->Prop}(hl:G[na]? =some (.list (l.map T3.t)))(ga:G[ai]? =none)(ll:l.length<1000000)(k:∀ {H'},Hx G H'->H'[ai]? =some (.list (l.map T3.v))->P H'):∀ (rest done:List T3){H:MH},done++rest=l->Hx G H->H[ai]? =some (.list (done.map T3.v))->eU (pK C 2 hm) ai (rest.length+1) (na,done.length) H P
 | [],done,H,e,hx,h=>by
  rw[append_nil]at e
  subst e
  exact aDn (aX (hx _ _ hl)) (getElem?_eq_none (by rw[length_map];exact le_refl _)) (k hx h)
 |t::rest,done,H,e,hx,h=>by
  refine aDm (t:=t) (aX (hx _ _ hl)) ?_ (Lf.mk (f8 h) ⟨?_,?_⟩)
  ·rw[getElem?_map,<-e,getElem?_append_right (le_refl _),sub_self];rfl
  ·rw[length_map]
   rw[<-e,length_append]at ll
   exact lt_of_le_of_lt (Nat.le_add_right _ _) ll
  ·have:=uU (hm:=hm) hl ga ll k rest (done++[t]) (H:=H.set ai (.list (done.map T3.v++[t.v]))) (by rw[append_assoc];exact e) (hx.set ga) (by rw[map_append];exact aJ h _)
   rw[length_append]at this
   exact this
theorem len_i{r:Nat}{l:List Int}{Q:EK}(h:LI H r l)(hl:l.length<1000000)(q:Q (.int l.length) H):d5 [.ref r] H Q:=by
 refine Lp.mk (v:=.int l.length) (H:=H) ?_ q
 show(lst H (.ref r)).bind _=_
 rw[h]
 show(if (l.map V.int).length<1000000 then _ else _)=_
 rw[length_map,if_pos hl]
theorem u0(x:T3):∀ l:List T3,ins dI x.v (l.map T3.v)=(ins T3.i x l).map T3.v
 | []=>rfl
 |y::r=>by
  show(if x.i<y.i then x.v::y.v::r.map T3.v else y.v::ins dI x.v (r.map T3.v))=(if x.i<y.i then x::y::r else y::ins T3.i x r).map T3.v
  rw[u0 x r]
  split<;>rfl
theorem nY:∀ l:List T3,isort dI (l.map T3.v)=(isort T3.i l).map T3.v
 | []=>rfl
 |x::r=>by
  show ins dI x.v (isort dI (r.map T3.v))=(ins T3.i x (isort T3.i r)).map T3.v
  rw[nY r,u0]
def Blocks(a b:List Int)(bl:List T3):Prop:=∃ r,Run a b [⟨0,a.length,0,b.length⟩] [] r/\bl=nad ⟨0,0,0⟩ (isort T3.i r)++[⟨a.length,b.length,0⟩]
theorem Blocks.uniq{l l':List T3}(h:Blocks a b l)(h':Blocks a b l'):l=l':=by
 refine xEA h λr h1 h2=>?_
 refine xEA h' λr' h3 h4=>?_
 cases h1.uniq h3
 rw[h2,h4]
theorem fG_0{s:Nat}:loB ["self"] [.ref s] lo0=look (fG (some (.ref s)) none none none none none none none none none none none none):=by
 rw[<-eO (fG none none none none none none none none none none none none none) ⋯]
 show upd _ "self" (.ref s)=_
 rw[aD];kernel_rfl
def gR6(X:XX C):SF:=aA (c8 X) (aA (c7 X) (aA (c6 X) (aA (cD X) (aA (cA X) (aA (bH X) (aA (b9 X) (aA (b8 X) (sK .next))))))))
def gR2(X:XX C):SF:=aA (c9 X) (aA (bQ X) (aA (bN X) (aA (bM X) (gR6 X))))
theorem aD7(X:XX C){s:Nat}{Q:EK}:aT X [.ref s] H Q=(1=1/\At s "matching_blocks" H λv=>Lp (oIs not v .none H) λv H1=>Lf (tr v H1) λb=>bif b then At s "matching_blocks" H1 λv=>Q v H1 else gR2 X (loB ["self"] [.ref s] lo0) H1 (j3 Q)):=by rfl'
theorem g_2(X:XX C){s:Nat}{K:SK}:gR2 X (look (fG (some (.ref s)) none none none none none none none none none none none none)) H K=(At s "a" H λva=>d5 [va] H λn H1=>At s "b" H1 λvb=>d5 [vb] H1 λm H2=>2<100/\2=2/\ aA (bQ X) (aA (bN X) (aA (bM X) (gR6 X))) (upd (upd (look (fG (some (.ref s)) none none none none none none none none none none none none)) "lb" m) "la" n) H2 K):=by rfl'
theorem g_34(X:XX C){s:Nat}{la lb:Int}{K:SK}:aA (bQ X) (aA (bN X) (aA (bM X) (gR6 X))) (look (fG (some (.ref s)) (some (.int la)) (some (.int lb)) none none none none none none none none none none)) H K= (4<100/\∃ n,yL (tE (eN "queue")) (gB X) n (upd (upd (look (fG (some (.ref s)) (some (.int la)) (some (.int lb)) none none none none none none none none none none)) "queue" (.ref H.length)) "matching_blocks" (.ref (H++[MO.list [Wd.v ⟨0,la,0,lb⟩]]).length)) ((H++[.list [Wd.v ⟨0,la,0,lb⟩]])++[.list []]) (bE (gR6 X) K)):=by rfl'
theorem aC0{x:Str}{lo:Lo}{P P':Bool->MH->Prop}(h:tE (eN x) lo H P)(k:∀ c H',P c H'->P' c H'):tE (eN x) lo H P':=Lf.elim h λv e h=>Lf.mk e (Lf.elim h λc e h=>Lf.mk e (k _ _ h))
end
section
variable {C:Cx}{H:MH}{a b:List Int}
def gR12(X:XX C):SF:=aA (b9 X) (aA (b8 X) (sK .next))
def wY(X:XX C):SF:=aA (bH X) (gR12 X)
def gR10(X:XX C):SF:=aA (cA X) (wY X)
def gR9(X:XX C):SF:=aA (cD X) (gR10 X)
section
variable {c:GC}{o1 o2 o3 o4 o5 o6 o7 o8 u1 u2 u3:Option V}{t x:T3}{na:Nat}{K:SK}
theorem g_6(X:XX C):gR6 X (gL c o1 o2 o3 o4 o5 o6 o7 o8) H K=(Lf (H[c.m]?.bind MO.own) λvs=>okSort vs/\gR9 X (upd (upd (upd (upd (gL c o1 o2 o3 o4 o5 o6 o7 o8) "i1" (.int 0)) "j1" (.int 0)) "k1" (.int 0)) "non_adjacent" (.ref (H.set c.m (.list (isort dI vs))).length)) (H.set c.m (.list (isort dI vs))++[.list []]) K):=by rfl'
theorem g_6n:upd (upd (upd (upd (gL c o1 o2 o3 o4 o5 o6 o7 o8) "i1" (.int 0)) "j1" (.int 0)) "k1" (.int 0)) "non_adjacent" (.ref na)=nL c o1 o2 o3 o4 o5 o6 o7 o8 ⟨0,0,0⟩ na none none none:=by
 unfold gL nL
 rw[aD,aD,aD,aD];kernel_rfl
theorem g_9(X:XX C):gR9 X (nL c o1 o2 o3 o4 o5 o6 o7 o8 t na u1 u2 u3) H K=((∃ vs,lst H (.ref c.m)=some vs)/\∃ n,cN (cU C) nT nB n (c.m,0) (nL c o1 o2 o3 o4 o5 o6 o7 o8 t na u1 u2 u3) H (bE (gR10 X) K)):=by rfl'
theorem g_10(X:XX C):gR10 X (nL c o1 o2 o3 o4 o5 o6 o7 o8 t na u1 u2 u3) H K=(bif t.k != 0 then nP (nL c o1 o2 o3 o4 o5 o6 o7 o8 t na u1 u2 u3) H (bE (wY X) K) else wY X (nL c o1 o2 o3 o4 o5 o6 o7 o8 t na u1 u2 u3) H K):=by rfl'
theorem g_12(X:XX C){Q:EK}:gR12 X (nL c o1 o2 o3 o4 o5 o6 o7 o8 t na u1 u2 u3) H (j3 Q)=((∃ vs,lst H (.ref na)=some vs)/\∃ n,eU (pK C 2 X.makeM) H.length n (na,0) (H++[.list []]) λH2=>St c.s "matching_blocks" (.ref H.length) H2 λH3=>At c.s "matching_blocks" H3 λv=>Q v H3):=by rfl'
theorem g_11(X:XX C){vs:List V}(h:H[na]? =some (.list vs))(hl:vs.length<1000000)(k:gR12 X (nL c o1 o2 o3 o4 o5 o6 o7 o8 t na u1 u2 u3) (H.set na (.list (vs++[T3.t ⟨c.la,c.lb,0⟩]))) K):wY X (nL c o1 o2 o3 o4 o5 o6 o7 o8 t na u1 u2 u3) H K:=by
 unfold wY bH
 exact aK (g9 (v:=T3.t ⟨c.la,c.lb,0⟩) (K:=bE (gR12 X) K) ⋯ (λH Q q=>kch (B:=(3<100/\Q (T3.t ⟨c.la,c.lb,0⟩) H)) ⋯ ⟨by decide,q⟩) h hl k)
theorem g_1011(X:XX C){acc all:List T3}(h:H[na]? =some (.list (acc.map T3.t)))(hl:acc.length<999999)(e:acc++nad t []=all)(k:∀ {H'},Ex H H' na->H'[na]? =some (.list ((all++[T3.mk c.la c.lb 0]).map T3.t))->gR12 X (nL c o1 o2 o3 o4 o5 o6 o7 o8 t na u1 u2 u3) H' K):gR10 X (nL c o1 o2 o3 o4 o5 o6 o7 o8 t na u1 u2 u3) H K:=by
 refine kch (g_10 X) ?_
 rw[uP]at e
 subst e
 by_cases q:t.k=0
 ·rw[if_pos q,append_nil]at k
  rw[show (t.k != 0)=false from by rw[q];rfl]
  refine bR (g_11 X h (by rw[length_map];exact lt_trans hl (by decide)) (k .set ?_))
  rw[map_append];exact aJ h _
 ·rw[if_neg q]at k
  rw[show (t.k != 0)=true from bne_iff_ne.mpr q]
  have h1:=aJ h (.list (acc.map T3.t++[t.t]))
  refine bX (nP_i (K:=bE (wY X) K) h (by rw[length_map];exact lt_trans hl (by decide)) (g_11 X h1 (by rw[length_append,length_map];exact Nat.succ_lt_succ hl) (k (Ex.set.trans .set) ?_)))
  rw[map_append,map_append];exact aJ h1 _
end
theorem aAy(X:XX C){s ra rb rd rj n:Nat}{fs:Str->Option V}{f:Int->Option V}{Q:EK}(S:SM H s ra rb rd rj n fs f a b)(hm:fs "matching_blocks" =some .none)(al:a.length<200)(ok:∀ r,Run a b [⟨0,a.length,0,b.length⟩] [] r->okSort (r.map T3.v))(k:∀ {H' r bl},Ex H H' s->H[r]? =none->r≠s->H'[s]? =some (.inst (fput fs "matching_blocks" (.ref r)))->H'[r]? =some (.list (bl.map T3.v))->Blocks a b bl->Q (.ref r) H'):aT X [.ref s] H Q:=by
 refine kch (aD7 X) ⟨rfl,At.mk S.o hm (Lp.mk (v:=.bool false) (H:=H) rfl (Lf.mk (p:=false) rfl (bR ?_)))⟩
 rw[fG_0]
 refine kch (g_2 X) (At.mk S.o S.fa (len_i S.ia S.al (At.mk S.o S.fb (len_i S.ib S.bl ⟨by decide,rfl,?_⟩))))
 rw[aD,aD]
 refine kch (g_34 X) ⟨by decide,2000,?_⟩
 rw[aD,aD]
 have x0:Hx H ((H++[MO.list [Wd.v ⟨0,a.length,0,b.length⟩]])++[MO.list []]):=(Hx.app _ _).trans (.app _ _)
 have el:(H++[MO.list [Wd.v ⟨0,a.length,0,b.length⟩]]).length=H.length+1:=length_append
 have gm:H[(H++[MO.list [Wd.v ⟨0,a.length,0,b.length⟩]]).length]? =none:=by rw[el];exact getElem?_eq_none (le_succ _)
 have qm:H.length≠(H++[MO.list [Wd.v ⟨0,a.length,0,b.length⟩]]).length:=by rw[el];exact(succ_ne_self _).symm
 refine while_ (QI a b ⟨s,a.length,b.length,H.length,(H++[MO.list [Wd.v ⟨0,a.length,0,b.length⟩]]).length⟩ H) (λI=>q_step X (c:=⟨s,a.length,b.length,H.length,(H++[MO.list [Wd.v ⟨0,a.length,0,b.length⟩]]).length⟩) S (aQ H) gm qm I ?_) aC0 2000 1000 (by decide)
  (.mk (q:=[⟨0,a.length,0,b.length⟩]) (m:=[]) rfl x0 (Hx.app _ _ _ _ (bU _ _)) (bU _ _) (λv hv=>?_) (λr h=>h) ?_ ?_)
 ·intro lo H1 I
  cases I with
  | @mk q m o1 o2 o3 o4 o5 o6 o7 o8 el hx hq hm w r n1 n2=>
  subst el
  have q0:q= []:=List.eq_nil_of_length_eq_zero (Nat.le_zero.mp (Nat.le_trans (s8 q) n1))
  subst q0
  have run:=r m .nil
  have ml:m.length<=1000:=n2
  refine kch (g_6 X) (Lf.mk (f8 hm) ⟨ok m run,?_⟩)
  rw[g_6n,nY]
  have h2:=aJ hm (.list ((isort T3.i m).map T3.v))
  have x2:Hx H _:=hx.set (m:=.list ((isort T3.i m).map T3.v)) gm
  revert h2 x2
  generalize H1.set _ (.list ((isort T3.i m).map T3.v))=H2
  intro h2 x2
  have sl:(isort T3.i m).length<=1000:=by rw[(b7 T3.i m).length_eq];exact ml
  refine kch (g_9 X) ⟨⟨_,aX (Hx.app _ _ _ _ h2)⟩,_,fR (NI ⟨s,a.length,b.length,H.length,_⟩ H2.length H2 (nad ⟨0,0,0⟩ (isort T3.i m))) (λI=>?_) (λI=>?_) (λI go=>n_step (aQ H2) I go) ((isort T3.i m).map T3.v) 0 rfl
   (.mk (acc:=[]) rfl rfl (.app _ _) (bU _ _) rfl (by rw[length_nil,Nat.zero_add];exact sl))⟩
  ·cases I with
   |mk el er hx=>exact aX (hx _ _ h2)
  ·cases I with
   | @mk p1 p2 p3 p4 p5 p6 p7 p8 u1 u2 u3 t acc l el er hx hn e n=>
   subst el
   cases List.map_eq_nil_iff.mp er.symm
   refine g_1011 X hn (by rw[length_nil]at n;exact A193 n) e λ{H6} x6 h6=>kch (g_12 X) ⟨⟨_,aX h6⟩,_,uU h6 (aQ H6) ?_ (λ{H7} x7 h7=>?_) _ [] (List.nil_append _) (.app _ _) (bU _ _)⟩
   ·have:(nad t []).length<=1:=by
     rw[uP];split
     ·exact zero_le 1
     ·exact le_refl 1
    have e2:(nad ⟨0,0,0⟩ (isort T3.i m)).length=acc.length+(nad t []).length:=by rw[<-e,length_append]
    rw[length_append,length_singleton]
    exact A194 n this e2
   ·have e7:Hx H H7:=(x2.trans (x6.hx hx (aQ H2))).trans x7
    have s7:=e7 _ _ S.o
    have sne:H6.length≠s:=λz=>by
     have:=(x2.trans (x6.hx hx (aQ H2))) _ _ S.o
     rw[<-z,aQ]at this;cases this
    refine St.mk s7 (At.mk (v:=.ref H6.length) (aJ s7 _) ⋯ (k (λj m n e=>aH (e7 _ _ e) n) ((x2.trans (x6.hx hx (aQ H2))).fresh) sne (aJ s7 _) (aH h7 sne.symm) ⟨m,run,rfl⟩))
 ·cases mem_singleton.mp hv
  exact⟨Int.le_refl _,natCast_nonneg _,Int.le_refl _,Int.le_refl _,natCast_nonneg _,Int.le_refl _⟩
 ·show 2*((a.length:Int)-0).toNat+1+0<=1000
  exact Yj1 al
 ·show 0+(2*((a.length:Int)-0).toNat+1+0)<=1000
  exact Yj0 al
end
section
variable {C:Cx}{H:MH}{K Q:SK}{lo:Lo}{a b:List Int}
def Tg.s:Tg->Str | .rep=> "replace" | .del=> "delete" | .ins=> "insert" | .eq=> "equal"
def Op.v(o:Op):V:=.tup [.str o.tag.s,.int o.i1,.int o.i2,.int o.j1,.int o.j2]
def oL(s ans:Nat)(i j:Int)(u1 u2 u3 u4:Option V):Lo:=look [("self",some (.ref s)),("i",some (.int i)),("j",some (.int j)),("answer",some (.ref ans)),("ai",u1),("bj",u2),("size",u3),("tag",u4)]
def oX(s ans:Nat)(i j:Int)(t:T3)(u4:Option V):Lo:=oL s ans i j (some (.int t.i)) (some (.int t.j)) (some (.int t.k)) u4
def oT:AF:=b3 3 (asC (aN "ai") (asC (aN "bj") (asC (aN "size") asN)))
def oP1:SF:=aA (aS (bZ (eN "answer") (aW (esC (eN "tag") (esC (eN "i") (esC (eN "ai") (esC (eN "j") (esC (eN "bj") esN)))))))) (sK .next)
def oP2:SF:=aA (aS (bZ (eN "answer") (aW (esC (eK (.str "equal")) (esC (eN "ai") (esC (eN "i") (esC (eN "bj") (esC (eN "j") esN)))))))) (sK .next)
def oR3:SF:=aA (sIf (tE (eN "size")) oP2 (sK .next)) (sK .next)
def oR2:SF:=aA (cM ["i","j"] (aW (esC (aB aI (eN "ai") (eN "size")) (esC (aB aI (eN "bj") (eN "size")) esN)))) oR3
def oR:SF:=aA (sIf (tE (eN "tag")) oP1 (sK .next)) oR2
def oBR(R:SF):SF:=aA (aZ "tag" (eK (.str ""))) (aA (sIf (bV (tE (aB (bC λx y=>decide (x<y)) (eN "i") (eN "ai"))) (bV (tE (aB (bC λx y=>decide (x<y)) (eN "j") (eN "bj"))) (tK true))) (aA (aZ "tag" (eK (.str "replace"))) (sK .next)) (aA (sIf (tE (aB (bC λx y=>decide (x<y)) (eN "i") (eN "ai"))) (aA (aZ "tag" (eK (.str "delete"))) (sK .next)) (aA (sIf (tE (aB (bC λx y=>decide (x<y)) (eN "j") (eN "bj"))) (aA (aZ "tag" (eK (.str "insert"))) (sK .next)) (sK .next)) (sK .next))) (sK .next))) R)
def oB:SF:=oBR oR
section
variable {s ans:Nat}{i j:Int}{u1 u2 u3 u4:Option V}{t:T3}
theorem oT_i(q:oB (oX s ans i j t u4) H K):oT t.v (oL s ans i j u1 u2 u3 u4) H λlo1 H1=>oB lo1 H1 K:=by
 refine kch (B:=(3=3/\oB (upd (upd (upd (oL s ans i j u1 u2 u3 u4) "ai" (.int t.i)) "bj" (.int t.j)) "size" (.int t.k)) H K)) ⋯ ⟨rfl,?_⟩
 unfold oL
 rw[aD,aD,aD]
 exact q
theorem yW{x y:Str}(q:oR (oX s ans i j t (some (.str y))) H K):oR (upd (upd (oX s ans i j t u4) "tag" (.str x)) "tag" (.str y)) H K:=by
 unfold oX oL
 rw[aD,aD]
 exact q
theorem o_tag0{x:Str}(q:oR (oX s ans i j t (some (.str x))) H K):oR (upd (oX s ans i j t u4) "tag" (.str x)) H K:=by
 unfold oX oL
 rw[aD]
 exact q
theorem oB_nf(R:SF):oBR R (oX s ans i j t u4) H K=(bif decide (i<t.i) then bif decide (j<t.j) then R (upd (upd (oX s ans i j t u4) "tag" (.str "")) "tag" (.str "replace")) H K else(bif decide (i<t.i) then R (upd (upd (oX s ans i j t u4) "tag" (.str "")) "tag" (.str "delete")) H K else bif decide (j<t.j) then R (upd (upd (oX s ans i j t u4) "tag" (.str "")) "tag" (.str "insert")) H K else R (upd (oX s ans i j t u4) "tag" (.str "")) H K) else(bif decide (i<t.i) then R (upd (upd (oX s ans i j t u4) "tag" (.str "")) "tag" (.str "delete")) H K else bif decide (j<t.j) then R (upd (upd (oX s ans i j t u4) "tag" (.str "")) "tag" (.str "insert")) H K else R (upd (oX s ans i j t u4) "tag" (.str "")) H K)):=by rfl'
theorem t_rep:Str.ofString "replace" =Tg.s .rep:=rfl
theorem t_del:Str.ofString "delete" =Tg.s .del:=rfl
theorem t_ins:Str.ofString "insert" =Tg.s .ins:=rfl
theorem oR_0:oR (oX s ans i j t (some (.str ""))) H K=oR2 (oX s ans i j t (some (.str ""))) H K:=by rfl'
theorem oR_1(g:Tg):oR (oX s ans i j t (some (.str g.s))) H K=oP1 (oX s ans i j t (some (.str g.s))) H (bE oR2 K):=by cases g<;>kernel_rfl
theorem oP1_i{x:Str}{vs:List V}(h:H[ans]? =some (.list vs))(hl:vs.length<1000000)(k:K .next (oX s ans i j t (some (.str x))) (H.set ans (.list (vs++[.tup [.str x,.int i,.int t.i,.int j,.int t.j]])))):oP1 (oX s ans i j t (some (.str x))) H K:=by
 unfold oP1
 exact aK (g9 (v:=.tup [.str x,.int i,.int t.i,.int j,.int t.j]) (K:=bE (sK .next) K) ⋯ (λH Q q=>kch (B:=(5<100/\Q (.tup [.str x,.int i,.int t.i,.int j,.int t.j]) H)) ⋯ ⟨by decide,q⟩) h hl k)
theorem oR2_i(q:oR3 (oX s ans (t.i+t.k) (t.j+t.k) t u4) H K):oR2 (oX s ans i j t u4) H K:=by
 refine kch (B:=(2<100/\2=2/\oR3 (upd (upd (oX s ans i j t u4) "j" (.int (t.j+t.k))) "i" (.int (t.i+t.k))) H K)) ⋯ ⟨by decide,rfl,?_⟩
 unfold oX oL
 rw[aD,aD]
 exact q
theorem oR3_nf:oR3 (oX s ans i j t u4) H K=(bif t.k != 0 then oP2 (oX s ans i j t u4) H (bE (sK .next) K) else K .next (oX s ans i j t u4) H):=by rfl'
theorem oP2_i{vs:List V}(h:H[ans]? =some (.list vs))(hl:vs.length<1000000)(k:K .next (oX s ans i j t u4) (H.set ans (.list (vs++[Op.v ⟨.eq,t.i,i,t.j,j⟩])))):oP2 (oX s ans i j t u4) H K:=by
 unfold oP2
 exact aK (g9 (v:=Op.v ⟨.eq,t.i,i,t.j,j⟩) (K:=bE (sK .next) K) ⋯ (λH Q q=>kch (B:=(5<100/\Q (Op.v ⟨.eq,t.i,i,t.j,j⟩) H)) ⋯ ⟨by decide,q⟩) h hl k)
theorem oR2_k{acc:List Op}(h:H[ans]? =some (.list (acc.map Op.v)))(hl:acc.length<1000000)(k:∀ {H'},Ex H H' ans->H'[ans]? =some (.list ((acc++if t.k=0 then [] else [Op.mk .eq t.i (t.i+t.k) t.j (t.j+t.k)]).map Op.v))->K .next (oX s ans (t.i+t.k) (t.j+t.k) t u4) H'):oR2 (oX s ans i j t u4) H K:=by
 refine oR2_i (kch oR3_nf ?_)
 by_cases q:t.k=0
 ·rw[if_pos q,append_nil]at k
  rw[show (t.k != 0)=false from by rw[q];rfl]
  exact bR (k (λ_ _ _ e=>e) h)
 ·rw[if_neg q,map_append]at k
  rw[show (t.k != 0)=true from bne_iff_ne.mpr q]
  exact bX (oP2_i (K:=bE (sK .next) K) h (by rw[length_map];exact hl) (k .set (aJ h _)))
theorem oR_k(g:Tg){acc:List Op}(h:H[ans]? =some (.list (acc.map Op.v)))(hl:acc.length<999999)(k:∀ {H'},Ex H H' ans->H'[ans]? =some (.list (((acc++[Op.mk g i t.i j t.j])++if t.k=0 then [] else [Op.mk .eq t.i (t.i+t.k) t.j (t.j+t.k)]).map Op.v))->K .next (oX s ans (t.i+t.k) (t.j+t.k) t (some (.str g.s))) H'):oR (oX s ans i j t (some (.str g.s))) H K:=by
 refine kch (oR_1 g) (oP1_i (K:=bE oR2 K) h (by rw[length_map];exact lt_trans hl (by decide)) (oR2_k (K:=K) (acc:=acc++[Op.mk g i t.i j t.j]) ?_ ?_ λe h'=>k (Ex.set.trans e) h'))
 ·rw[map_append];exact aJ h _
 ·rw[length_append];exact Nat.succ_lt_succ hl
theorem oB_k{acc:List Op}(h:H[ans]? =some (.list (acc.map Op.v)))(hl:acc.length<999999)(k:∀ {H' u},Ex H H' ans->H'[ans]? =some (.list ((acc++(gap i j t.i t.j++if t.k=0 then [] else [Op.mk .eq t.i (t.i+t.k) t.j (t.j+t.k)])).map Op.v))->K .next (oX s ans (t.i+t.k) (t.j+t.k) t u) H'):oB (oX s ans i j t u4) H K:=by
 refine kch (oB_nf oR) ?_
 unfold gap at k
 by_cases q1:i<t.i
 ·by_cases q2:j<t.j
  ·rw[if_pos q1,if_pos q2,<-append_assoc]at k
   rw[decide_eq_true q1,decide_eq_true q2]
   rw[t_rep]
   exact bX (bX (yW (oR_k .rep h hl k)))
  ·rw[if_pos q1,if_neg q2,<-append_assoc]at k
   rw[decide_eq_true q1,decide_eq_false q2]
   rw[t_del]
   exact bX (bR (bX (yW (oR_k .del h hl k))))
 ·by_cases q2:j<t.j
  ·rw[if_neg q1,if_pos q2,<-append_assoc]at k
   rw[decide_eq_false q1,decide_eq_true q2]
   rw[t_ins]
   exact bR (bR (bX (yW (oR_k .ins h hl k))))
  ·rw[if_neg q1,if_neg q2,List.nil_append]at k
   rw[decide_eq_false q1,decide_eq_false q2]
   exact bR (bR (bR (o_tag0 (kch oR_0 (oR2_k h (lt_trans hl (by decide)) k)))))
end
inductive OI(s ans:Nat)(G:MH)(all:List Op)(rest:List V)(lo:Lo)(H:MH):Prop
 |mk {u1 u2 u3 u4:Option V}{i j:Int}{acc:List Op}{l:List T3} (el:lo=oL s ans i j u1 u2 u3 u4) (er:rest=l.map T3.v) (hx:Ex G H ans) (hn:H[ans]? =some (.list (acc.map Op.v)))
   (e:acc++ops i j l=all) (n:acc.length+2*l.length<=100000):OI s ans G all rest lo H
theorem o_step{s ans:Nat}{G:MH}{all:List Op}{v:V}{rest:List V}(I:OI s ans G all (v::rest) lo H)(go:GoK (OI s ans G all rest) Q K):oT v lo H λlo1 H1=>oB lo1 H1 K:=by
 cases I with
 | @mk u1 u2 u3 u4 i j acc l el er hx hn e n=>
 refine bL (List.map_eq_cons_iff.mp er.symm) λx l' e1 e2 e3=>?_
 subst e1 e2 e3 el
 rw[length_cons]at n
 rw[kK]at e
 refine oT_i (oB_k hn (A197 n) λ{H' u} e' h'=>go.nx (.mk rfl rfl (hx.trans e') h' ?_ ?_))
 ·rw[append_assoc,append_assoc];exact e
 ·have g1:(gap i j x.i x.j).length<=1:=by
   unfold gap
   split<;>split<;>first |exact le_refl 1 |exact zero_le 1
  have g2:(if x.k=0 then [] else [(⟨.eq,x.i,x.i+x.k,x.j,x.j+x.k⟩:Op)]).length<=1:=by
   split
   ·exact zero_le 1
   ·exact le_refl 1
  rw[length_append,length_append]
  exact A198 n g1 g2
end
section
variable {C:Cx}{H:MH}{a b:List Int}
theorem zB{s r:Nat}{m m':MO}(h:H[s]? =some m)(h':H[r]? =some m')(n:m≠m'):s≠r:=λz=>by
 subst z
 exact n (Option.some.inj (h.symm.trans h'))
theorem Ex.li{H':MH}{s r:Nat}{fs:Str->Option V}{l:List Int}(e:Ex H H' s)(h:H[s]? =some (.inst fs))(q:LI H r l):LI H' r l:=by
 refine xEA (bind_eq_some_iff.mp q) λi hi q=>?_
 refine xEA (bind_eq_some_iff.mp q) λm hm q=>?_
 refine bind_eq_some_iff.mpr ⟨i,hi,bind_eq_some_iff.mpr ⟨m,e _ _ (zB h hm λz=>?_) hm,q⟩⟩
 subst z
 cases q
theorem SM.ex{H':MH}{s ra rb rd rj n:Nat}{fs fs':Str->Option V}{f:Int->Option V}(S:SM H s ra rb rd rj n fs f a b)(e:Ex H H' s)(o:H'[s]? =some (.inst fs'))(ea:fs' "a" =fs "a")(eb:fs' "b" =fs "b")(ed:fs' "b2j" =fs "b2j")(ej:fs' "bjunk" =fs "bjunk"):SM H' s ra rb rd rj n fs' f a b:=⟨o,ea.trans S.fa,eb.trans S.fb,ed.trans S.fd,ej.trans S.fj,e.li S.o S.ia,e.li S.o S.ib,e _ _ (zB S.o S.d nofun) S.d,e _ _ (zB S.o S.j nofun) S.j,λv=>(S.bj v).imp_right fun⟨r,js,h1,h2,h3⟩=>⟨r,js,h1,e.li S.o h2,h3⟩,S.al,S.bl⟩
def oN(s i j ans:Option V):Nv:=[("self",s),("i",i),("j",j),("answer",ans),("ai",none),("bj",none),("size",none),("tag",none)]
theorem oN_0{s:Nat}:loB ["self"] [.ref s] lo0=look (oN (some (.ref s)) none none none):=by
 rw[<-eO (oN none none none none) ⋯]
 show upd _ "self" (.ref s)=_
 rw[aD];kernel_rfl
def oR5(X:XX C):SF:=aA (gU X) (sK .next)
def oR4(X:XX C):SF:=aA (gV X) (oR5 X)
def oRA(X:XX C)(R:SF):SF:=aA (gX X) (aA (gW X) R)
theorem uM(X:XX C){s:Nat}{Q:EK}:cB X [.ref s] H Q=(1=1/\At s "opcodes" H λv=>Lp (oIs not v .none H) λv H1=>Lf (tr v H1) λb=>bif b then At s "opcodes" H1 λv=>Q v H1 else oRA X (oR4 X) (loB ["self"] [.ref s] lo0) H1 (j3 Q)):=by rfl'
theorem o_23(X:XX C)(R:SF){s:Nat}{K:SK}:oRA X R (look (oN (some (.ref s)) none none none)) H K=(St s "opcodes" (.ref H.length) (H++[.list []]) λH2=>R (upd (upd (upd (look (oN (some (.ref s)) none none none)) "i" (.int 0)) "j" (.int 0)) "answer" (.ref H.length)) H2 K):=by rfl'
theorem o_4(X:XX C){s ans:Nat}{K:SK}:oR4 X (oL s ans 0 0 none none none none) H K=((∃ ff,H[s]? =some (.inst ff))/\aT X [.ref s] H λv H2=>Lf v.rf λi=>(∃ vs,lst H2 (.ref i)=some vs)/\∃ n,cN (cU C) oT oB n (i,0) (oL s ans 0 0 none none none none) H2 (bE (oR5 X) K)):=by rfl'
theorem o_5(X:XX C){s ans:Nat}{i j:Int}{u1 u2 u3 u4:Option V}{Q:EK}:oR5 X (oL s ans i j u1 u2 u3 u4) H (j3 Q)=Q (.ref ans) H:=by rfl'
def fsO(fs:Str->Option V)(ans r:Nat):Str->Option V:=fput (fput fs "opcodes" (.ref ans)) "matching_blocks" (.ref r)
theorem uJ:∀ (l:List T3) (i j:Int),(ops i j l).length<=2*l.length
 | [],_,_=>le_refl _
 |t::l,i,j=>by
  have ih:=uJ l (t.i+t.k) (t.j+t.k)
  have g1:(gap i j t.i t.j).length<=1:=by
   unfold gap
   split<;>split<;>first |exact le_refl 1 |exact zero_le 1
  have g2:(if t.k=0 then [] else [Op.mk .eq t.i (t.i+t.k) t.j (t.j+t.k)]).length<=1:=by
   split
   ·exact zero_le 1
   ·exact le_refl 1
  rw[kK,length_append,length_append,length_cons]
  exact A199 ih g1 g2
theorem go_ok(X:XX C){s ra rb rd rj n:Nat}{fs:Str->Option V}{f:Int->Option V}{Q:EK}(S:SM H s ra rb rd rj n fs f a b)(hm:fs "matching_blocks" =some .none)(ho:fs "opcodes" =some .none)(al:a.length<200)(ok:∀ r,Run a b [⟨0,a.length,0,b.length⟩] [] r->okSort (r.map T3.v))(len:∀ bl,Blocks a b bl->bl.length<=1000)(k:∀ {H' r bl},Ex H H' s->H.length≠s->H'[s]? =some (.inst (fsO fs H.length r))->H'[H.length]? =some (.list ((ops 0 0 bl).map Op.v))->Blocks a b bl->Q (.ref H.length) H'):cB X [.ref s] H Q:=by
 refine kch (uM X) ⟨rfl,At.mk S.o ho (Lp.mk (v:=.bool false) (H:=H) rfl (Lf.mk (p:=false) rfl (bR ?_)))⟩
 rw[oN_0]
 have x1:=Hx.app H [MO.list []]
 have ns:H.length≠s:=cG S.o
 refine kch (o_23 X (oR4 X)) (St.mk (x1 _ _ S.o) ?_)
 rw[aD,aD,aD]
 have s2:=aJ (x1 _ _ S.o) (.inst (fput fs "opcodes" (.ref H.length)))
 have a2:((H++[MO.list []]).set s (.inst (fput fs "opcodes" (.ref H.length))))[H.length]? =some (.list []):=aH (bU _ _) ns.symm
 have e2:Ex H ((H++[MO.list []]).set s (.inst (fput fs "opcodes" (.ref H.length)))) s:=λj m n e=>aH (x1 _ _ e) n
 have S2:=S.ex e2 s2 ⋯ ⋯ ⋯ ⋯
 refine kch (o_4 X) ⟨⟨_,s2⟩,aAy X S2 (kch (B:=fs "matching_blocks" =some .none) ⋯ hm) al ok λ{H3 r bl} e3 hr rs s3 h3 B=>Lf.mk (p:=r) rfl ⟨⟨_,aX h3⟩,_,fR (OI s H.length H3 (ops 0 0 bl)) (λI=>?_) (λI=>?_) (λI go=>o_step I go) (bl.map T3.v) 0 rfl
  (.mk (acc:=[]) rfl rfl (λ_ _ _ e=>e) (e3 _ _ ns.symm a2) rfl (by have:=len bl B;rw[length_nil];exact A200 this))⟩⟩
 ·cases I with
  |mk el er hx=>exact aX (hx _ _ (λz=>by rw[<-z,a2]at hr;cases hr) h3)
 ·cases I with
  | @mk u1 u2 u3 u4 i j acc l el er hx hn e n=>
  subst el
  cases List.map_eq_nil_iff.mp er.symm
  rw[ops_n,append_nil]at e
  subst e
  exact kch (o_5 X) (k (λj m q h=>hx _ _ (λz=>by rw[<-z,aQ]at h;cases h) (e3 _ _ q (e2 _ _ q h))) ns (hx _ _ ns s3) hn B)
end
section
variable {C:Cx}{H:MH}{a b:List Int}
theorem Run.okSort{r:List T3}(h:Run a b [⟨0,a.length,0,b.length⟩] [] r)(rl:r.length<64):okSort (r.map T3.v):=by
 refine⟨λv hv=>?_,List.pairwise_map.mpr h.sorted.1,by rw[length_map];exact rl⟩
 refine xEA (mem_map.mp hv) λt _ e=>?_
 exact e▸rfl
theorem Blocks.len{l:List T3}(h:Blocks a b l)(al:a.length<200):l.length<=1000:=by
 refine xEA h λr h1 h2=>?_
 have:=jH (isort T3.i r) ⟨0,0,0⟩
 rw[(b7 T3.i r).length_eq]at this
 have:=h1.len
 rw[h2,length_append,length_singleton]
 omega
def Ops(a b:List Int)(l:List Op):Prop:=∃ bl,Blocks a b bl/\l=ops 0 0 bl
theorem Ops.uniq{l l':List Op}(h:Ops a b l)(h':Ops a b l'):l=l':=by
 refine xEA h λr h1 h2=>?_
 refine xEA h' λr' h3 h4=>?_
 rw[h2,h4,h1.uniq h3]
theorem Ops.cod{l:List Op}(h:Ops a b l):Cod a b none 0 0 l:=by
 refine xEA h λbl z184 z185=>?_;clear h;obtain⟨r,h1,rfl⟩:=z184;subst z185
 exact(zC h1.sorted.2).cod (natCast_nonneg _) (natCast_nonneg _)
theorem sZ(X:XX C){s ra rb rd rj n:Nat}{fs:Str->Option V}{f:Int->Option V}{Q:EK}(S:SM H s ra rb rd rj n fs f a b)(hm:fs "matching_blocks" =some .none)(ho:fs "opcodes" =some .none)(al:a.length<200)(rl:∀ r,Run a b [⟨0,a.length,0,b.length⟩] [] r->r.length<64)(k:∀ {H' r l},Ex H H' s->H.length≠s->H'[s]? =some (.inst (fsO fs H.length r))->H'[H.length]? =some (.list (l.map Op.v))->Ops a b l->Q (.ref H.length) H'):cB X [.ref s] H Q:=go_ok X S hm ho al (λr h=>h.okSort (rl r h)) (λbl h=>h.len al) λe1 e2 e3 e4 B=>k e1 e2 e3 e4 ⟨_,B,rfl⟩
end
section
variable {C:Cx}{H:MH}{K Q:SK}{a b:List Int}
def Tg.isEq:Tg->Bool | .eq=>true |_=>false
def Op.hd(o:Op)(n:Int):Op:=⟨o.tag,o.i1,min o.i2 (o.i1+n),o.j1,min o.j2 (o.j1+n)⟩
def Op.tl(o:Op)(n:Int):Op:=⟨o.tag,max o.i1 (o.i2-n),o.i2,max o.j1 (o.j2-n),o.j2⟩
def nI(n:Int)(o:Op):Bool:=o.tag.isEq && decide (o.i2-o.i1>n+n)
def iQ(cur:List Op):Bool:=match cur with | []=>false | [o]=> !o.tag.isEq |_=>true
def grps(n:Int)(cur:List Op):List Op->List (List Op)
 | []=>bif iQ cur then [cur] else []
 |o::l=>bif nI n o then(cur++[o.hd n])::grps n [o.tl n] l else grps n (cur++[o]) l
theorem aAu(n:Int)(cur:List Op):grps n cur []=bif iQ cur then [cur] else []:=rfl
theorem hY(n:Int)(cur:List Op)(o:Op)(l:List Op):grps n cur (o::l)=bif nI n o then(cur++[o.hd n])::grps n [o.tl n] l else grps n (cur++[o]) l:=rfl
def mZ(n:Int):List Op->List Op
 | []=>[]
 |o::l=>(bif o.tag.isEq then o.tl n else o)::l
def fI(n:Int):List Op->List Op
 | []=>[]
 | [o]=>[bif o.tag.isEq then o.hd n else o]
 |o::l=>o::fI n l
def gN:List Op->List Op
 | []=>[⟨.eq,0,1,0,1⟩]
 |l=>l
def groups(n:Int)(l:List Op):List (List Op):=grps n [] (fI n (mZ n (gN l)))
def kL(s:Nat)(n:Int)(cd:Nat)(gr:Nat)(u1 u2 u3 u4 u5:Option V):Lo:=look [("self",some (.ref s)),("n",some (.int n)),("codes",some (.ref cd)),("nn",some (.int (n+n))),("group",some (.ref gr)),("tag",u1),("i1",u2),("i2",u3),("j1",u4),("j2",u5)]
def kX(s:Nat)(n:Int)(cd gr:Nat)(o:Op):Lo:=kL s n cd gr (some (.str o.tag.s)) (some (.int o.i1)) (some (.int o.i2)) (some (.int o.j1)) (some (.int o.j2))
section
variable {s cd gr:Nat}{n:Int}{u1 u2 u3 u4 u5:Option V}{o:Op}
theorem gtgt_i(X:XX C){R:Lo->MH->Prop}(q:R (kX s n cd gr o) H):aA2 X o.v (kL s n cd gr u1 u2 u3 u4 u5) H R:=by
 refine kch (B:=(5=5/\R (upd (upd (upd (upd (upd (kL s n cd gr u1 u2 u3 u4 u5) "tag" (.str o.tag.s)) "i1" (.int o.i1)) "i2" (.int o.i2)) "j1" (.int o.j1)) "j2" (.int o.j2)) H)) ⋯ ⟨rfl,?_⟩
 unfold kL
 rw[aD,aD,aD,aD,aD]
 exact q
theorem qL(H:MH)(g:Tg):eqv H (.str g.s) (.str "equal")=some g.isEq:=by cases g<;>kernel_rfl
theorem gfc_i(X:XX C){P:Bool->MH->Prop}(q:P (nI n o) H):g_fc X (kX s n cd gr o) H P:=by
 refine kch (B:=(Lp (bG id (.str o.tag.s) (.str "equal") H) λv H1=>Lf (tr v H1) λt=>bif t then(bif decide (o.i2-o.i1>n+n) then P true H1 else P false H1) else P false H1)) ⋯
  (Lp.mk (v:=.bool o.tag.isEq) (H:=H) (by unfold bG;rw[qL];rfl) (Lf.mk (p:=o.tag.isEq) rfl ?_))
 unfold nI at q
 cases e:o.tag.isEq with
 |false=>rw[e]at q;exact q
 |true=>
  rw[e,Bool.true_and]at q
  cases e2:decide (o.i2-o.i1>n+n) with
  |false=>rw[e2]at q;exact q
  |true=>rw[e2]at q;exact q
theorem gf1_i(X:XX C){vs:List V}(h:H[gr]? =some (.list vs))(hl:vs.length<1000000)(k:K .next (kX s n cd gr o) (H.set gr (.list (vs++[(o.hd n).v])))):g_f1 X (kX s n cd gr o) H K:=g9 (v:=(o.hd n).v) (K:=K) ⋯ (λH Q q=>kch (B:=(5<100/\Q (o.hd n).v H)) ⋯ ⟨by decide,q⟩) h hl k
theorem gf3_i(X:XX C){vs:List V}(h:H[gr]? =some (.list vs))(hl:vs.length<1000000)(k:K .next (kX s n cd gr o) (H.set gr (.list (vs++[o.v])))):g_f3 X (kX s n cd gr o) H K:=g9 (v:=o.v) (K:=K) ⋯ (λH Q q=>kch (B:=(5<100/\Q o.v H)) ⋯ ⟨by decide,q⟩) h hl k
theorem gf2_i(X:XX C)(k:K .next (kX s n cd H.length (o.tl n)) (H++[.list []])):g_f2 X (kX s n cd gr o) H K:=by
 refine kch (B:=(2<100/\2=2/\K .next (upd (upd (upd (kX s n cd gr o) "group" (.ref H.length)) "j1" (.int (max o.j1 (o.j2-n)))) "i1" (.int (max o.i1 (o.i2-n)))) (H++[.list []]))) ⋯ ⟨by decide,rfl,?_⟩
 unfold kX kL
 rw[aD,aD,aD]
 exact k
end
end
section
variable {C:Cx}{H:MH}{a b:List Int}
section
variable {s cd gr:Nat}{n:Int}{u1 u2 u3 u4 u5:Option V}
theorem aD6(X:XX C){P:Bool->MH->Prop}:vA X (kL s n cd gr u1 u2 u3 u4 u5) H P=(Lf (tr (.ref gr) H) λt=>bif t then Lp ((lst H (.ref gr)).bind λxs=>if xs.length<1000000 then some (.int xs.length,H) else none) λm H1=>Lp (bG id m (.int 1) H1) λv H2=>Lf (tr v H2) λt=>bif t then (Lp (aR (.ref gr) (.int 0) H2) λv H3=>Lp (aR v (.int 0) H3) λv H4=>Lp (bG id v (.str "equal") H4) λv H5=>Lf (tr v H5) λt=>bif t then(bif !true then P true H5 else P false H5) else(bif !false then P true H5 else P false H5)) else(bif !false then P true H2 else P false H2) else P false H):=by rfl'
theorem gfc2_i(X:XX C){P:Bool->MH->Prop}{cur:List Op}(h:H[gr]? =some (.list (cur.map Op.v)))(hl:cur.length<1000000)(q:P (iQ cur) H):vA X (kL s n cd gr u1 u2 u3 u4 u5) H P:=by
 have hl':(cur.map Op.v).length<1000000:=by rw[length_map];exact hl
 refine kch (aD6 X) (Lf.mk (oH h hl') ?_)
 have len:((lst H (.ref gr)).bind λxs=>if xs.length<1000000 then some (V.int xs.length,H) else none)=some (.int (cur.map Op.v).length,H):=by
  rw[aX h]
  exact if_pos hl'
 match cur,h,len,q with
 | [],h,len,q=>exact q
 | [o],h,len,q=>
  refine bX (Lp.mk len (Lp.mk (v:=.bool true) (H:=H) ⋯ (Lf.mk (p:=true) rfl (bX (Lp.mk (v:=o.v) (H:=H) ?_ (Lp.mk (v:=.str o.tag.s) (H:=H) rfl (Lp.mk (v:=.bool o.tag.isEq) (H:=H) ?_ (Lf.mk (p:=o.tag.isEq) rfl ?_))))))))
  ·show((lst H (.ref gr)).bind (at_ 0)).map _=_
   rw[aX h];rfl
  ·unfold bG;rw[qL];rfl
  ·have q:P (!o.tag.isEq) H:=q
   cases e:o.tag.isEq with
   |false=>rw[e]at q;exact q
   |true=>rw[e]at q;exact q
 |o::o2::l,h,len,q=>
  refine bX (Lp.mk len (Lp.mk (v:=.bool false) (H:=H) ?_ (Lf.mk (p:=false) rfl (bR (bX q)))))
  have e:(((o::o2::l).map Op.v).length:Int)≠1:=by rw[length_map,length_cons,length_cons];exact A204
  unfold bG
  rw[aEg,decide_eq_false e];rfl
end
def Ex2(H H':MH)(i i':Nat):Prop:=∀ (j:Nat) (m:MO),i≠j->i'≠j->H[j]? =some m->H'[j]? =some m
theorem Ex2.trans{H H1 H2:MH}{i i':Nat}(h:Ex2 H H1 i i')(h':Ex2 H1 H2 i i'):Ex2 H H2 i i':=λj m n n' e=>h' j m n n' (h j m n n' e)
theorem Ex2.set{H:MH}{i i':Nat}{m m':MO}:Ex2 H ((H.set i m).set i' m') i i':=λj x n n' e=>aH (aH e n) n'
theorem Ex2.set1{H:MH}{i i':Nat}{m:MO}:Ex2 H (H.set i m) i i':=λj x n n' e=>aH e n
theorem iv_of{i:Nat}{p:Nat×Nat}(h:H[i]? =some (.itr (some p))):H[i]?.bind MO.iv=some p:=by rw[h];rfl
structure OutK(s:Nat)(n:Int)(cd it gr:Nat)(all:List Op)(p0:Nat)(H:MH)(gs:List (List Op))(Q:jT->MH->Prop):Prop where
 yl:∀ {H' o p g},Ex2 H H' it gr->H'[it]? =some (.itr (some (cd,p)))->H'[gr]? =some (.list (g.map Op.v))->gs=g::grps n [o.tl n] (all.drop p)->p0<p->p<=all.length->Q (.yl it (kX s n cd gr o) (.ref gr)) H'
 yr:∀ {H' lo g},Ex2 H H' it gr->H'[gr]? =some (.list (g.map Op.v))->gs= [g]->(∃ m,H'[it]? =some m)->Q (.yr lo (.ref gr)) H'
 dn:∀ {H'},Ex2 H H' it gr->gs= []->Q .done H'
theorem pE(X:XX C){s cd it gr:Nat}{n:Int}{all:List Op}{Q:jT->MH->Prop}{p0:Nat}(ci:it≠cd)(gi:it≠gr)(cg:gr≠cd):∀ (rest:List Op){cur:List Op}{p:Nat}{H:MH}{u1 u2 u3 u4 u5:Option V}, p0<=p->all.drop p=rest->H[cd]? =some (.list (all.map Op.v))->H[it]? =some (.itr (some (cd,p)))->H[gr]? =some (.list (cur.map Op.v))->cur.length+rest.length<=1000->OutK s n cd it gr all p0 H (grps n cur rest) Q-> (gfn X).loopN (rest.length+1) it (kL s n cd gr u1 u2 u3 u4 u5) H Q
 | [],cur,p,H,u1,u2,u3,u4,u5,h0,hd,hc,hi,hg,hl,K=>by
  refine Lf.mk (iv_of hi) (Lf.mk (aX hc) ?_)
  show(match (all.map Op.v)[p]? with |some v=>_ |none=>(gfn X).tail _ (H.set it (.itr none)) Q)
  rw[getElem?_eq_none (by rw[length_map];exact List.drop_eq_nil_iff.mp hd)]
  have hg':=aH (m':=.itr none) hg gi
  refine gfc2_i X hg' (by rw[length_nil]at hl;exact A205 hl) ?_
  cases e:iQ cur with
  |false=>exact bR (K.dn .set1 (by rw[aAu,e];rfl))
  |true=>exact bX (kch (B:=Q (.yr (kL s n cd gr u1 u2 u3 u4 u5) (.ref gr)) (H.set it (.itr none))) ⋯ (K.yr .set1 hg' (by rw[aAu,e];rfl) ⟨_,aJ hi _⟩))
 |o::rest,cur,p,H,u1,u2,u3,u4,u5,h0,hd,hc,hi,hg,hl,K=>by
  have hp:all[p]? =some o:=by rw[<-List.head?_drop,hd];rfl
  have hpl:p+1<=all.length:=(List.getElem?_eq_some_iff.mp hp).1
  have hd':all.drop (p+1)=rest:=by rw[<-List.drop_drop,hd];rfl
  rw[length_cons]at hl
  have cl:(cur.map Op.v).length<1000000:=by rw[length_map];exact A191 hl
  refine Lf.mk (iv_of hi) (Lf.mk (aX hc) ?_)
  show(match (all.map Op.v)[p]? with |some v=>_ |none=>_)
  rw[getElem?_map,hp]
  have hg':=aH (m':=.itr (some (cd,p+1))) hg gi
  have hi':=aJ hi (.itr (some (cd,p+1)))
  refine gtgt_i X (gfc_i X ?_)
  cases e:nI n o with
  |true=>
   refine bX (gf1_i X hg' cl (kch (B:=Q (.yl it (kX s n cd gr o) (.ref gr)) ((H.set it (.itr (some (cd,p+1)))).set gr (.list (cur.map Op.v++[(o.hd n).v])))) ⋯ (K.yl (g:=cur++[o.hd n]) .set (aH hi' gi.symm) ?_ ?_ (Nat.lt_succ_of_le h0) hpl)))
   ·rw[map_append];exact aJ hg' _
   ·rw[hY,e,hd'];rfl
  |false=>
   refine bR (gf3_i X hg' cl ?_)
   refine pE X ci gi cg rest (cur:=cur++[o]) (p:=p+1) (le_succ_of_le h0) hd' (aH (aH hc ci) cg) (aH hi' gi.symm) ?_ ?_ ?_
   ·rw[map_append];exact aJ hg' _
   ·rw[length_append,length_singleton];exact A192 hl
   ·have eg:grps n (cur++[o]) rest=grps n cur (o::rest):=by rw[hY,e];rfl
    rw[eg]
    exact⟨λe1=>K.yl (Ex2.set.trans e1),λe1=>K.yr (Ex2.set.trans e1),λe1=>K.dn (Ex2.set.trans e1)⟩
end
section
variable {C:Cx}{H:MH}{a b:List Int}
theorem u7{i:Nat}{g:Gn}(h:H[i]? =some (.gen g)):H[i]?.bind MO.gn=some g:=by rw[h];rfl
def Hp(B:Nat->Option MO)(H:MH):Prop:=∀ (i:Nat) (m:MO),B i=some m->H[i]? =some m
section
variable {B:Nat->Option MO}{H1:MH}
theorem Hp.hx(h:Hp B H)(x:Hx H H1):Hp B H1:=λi m e=>x _ _ (h i m e)
theorem Hp.set{i:Nat}{m:MO}(h:Hp B H)(n:B i=none):Hp B (H.set i m):=λj x e=>aH (h j x e) λq=>aG (n.symm.trans (q▸e))
theorem Hp.fresh(h:Hp B H):B H.length=none:=by
 cases e:B H.length with
 |none=>rfl
 |some m=>exact aG ((aQ H).symm.trans (h _ _ e))
end
theorem Ex2.hx{G:Nat->Option MO}{H H':MH}{i i':Nat}(h:Ex2 H H' i i')(x:Hp G H)(hi:G i=none)(hi':G i'=none):Hp G H':=λj m e=>
 h j m (λz=>by rw[z,e]at hi;cases hi) (λz=>by rw[z,e]at hi';cases hi') (x j m e)
end
section
variable {C:Cx}{H:MH}{a b:List Int}
def kP(s:Nat)(n:Int)(cd nn gr u1 u2 u3 u4 u5:Option V):Lo:=look [("self",some (.ref s)),("n",some (.int n)),("codes",cd),("nn",nn),("group",gr),("tag",u1),("i1",u2),("i2",u3),("j1",u4),("j2",u5)]
theorem kP_0{s:Nat}{n:Int}:loB ["self","n"] [.ref s,.int n] lo0=kP s n none none none none none none none none:=by
 rw[<-eO [("self",none),("n",none),("codes",none),("nn",none),("group",none),("tag",none),("i1",none),("i2",none),("j1",none),("j2",none)] ⋯]
 show upd (upd (look _) "self" (.ref s)) "n" (.int n)=_
 rw[aD,aD];kernel_rfl
def pT:AF:=b3 5 (asC (aN "tag") (asC (aN "i1") (asC (aN "i2") (asC (aN "j1") (asC (aN "j2") asN)))))
section
variable {s cd:Nat}{n:Int}{c1 u1 u2 u3 u4 u5:Option V}{o:Op}{K:SK}
theorem gp_1(X:XX C)(R:SF):aA (u9 X) (aA (u8 X) R) (kP s n none none none u1 u2 u3 u4 u5) H K=((∃ ff,H[s]? =some (.inst ff))/\cB X [.ref s] H λv H1=>R (upd (kP s n none none none u1 u2 u3 u4 u5) "codes" v) H1 K):=by rfl'
theorem gp_2(X:XX C)(R:SF):aA (lK X) R (kP s n (some (.ref cd)) none none u1 u2 u3 u4 u5) H K=(Lf (tr (.ref cd) H) λt=>bif !t then(5<100/\R (upd (kP s n (some (.ref cd)) none none u1 u2 u3 u4 u5) "codes" (.ref H.length)) (H++[.list [Op.v ⟨.eq,0,1,0,1⟩]]) K) else R (kP s n (some (.ref cd)) none none u1 u2 u3 u4 u5) H K):=by rfl'
def pA(R:SF):SF:=aA (cC (aW (esC (eN "tag") (esC (aM tW (esC (eN "i1") (esC (aB cE (eN "i2") (eN "n")) esN))) (esC (eN "i2") (esC (aM tW (esC (eN "j1") (esC (aB cE (eN "j2") (eN "n")) esN))) (esC (eN "j2") esN)))))) (qS (eN "codes") (eK (.int 0)))) R
def pZ(R:SF):SF:=aA (cC (aW (esC (eN "tag") (esC (eN "i1") (esC (aM jC (esC (eN "i2") (esC (aB aI (eN "i1") (eN "n")) esN))) (esC (eN "j1") (esC (aM jC (esC (eN "j2") (esC (aB aI (eN "j1") (eN "n")) esN))) esN)))))) (qS (eN "codes") (i8 (eK (.int 1))))) R
theorem gp_3(X:XX C)(R:SF):aA (lJ X) R (kP s n (some (.ref cd)) none none u1 u2 u3 u4 u5) H K=(Lp (aR (.ref cd) (.int 0) H) λv H1=>Lp (aR v (.int 0) H1) λw H2=>Lp (bG id w (.str "equal") H2) λe H3=>Lf (tr e H3) λt=> bif t then(Lp (aR (.ref cd) (.int 0) H3) λv H4=>pT v (kP s n (some (.ref cd)) none none u1 u2 u3 u4 u5) H4 λlo1 H5=>pA (sK .next) lo1 H5 (bE R K)) else R (kP s n (some (.ref cd)) none none u1 u2 u3 u4 u5) H3 K):=by rfl'
theorem gp_4(X:XX C)(R:SF):aA (lI X) R (kP s n (some (.ref cd)) none none u1 u2 u3 u4 u5) H K=(Lp (aR (.ref cd) (.int (-1)) H) λv H1=>Lp (aR v (.int 0) H1) λw H2=>Lp (bG id w (.str "equal") H2) λe H3=>Lf (tr e H3) λt=> bif t then(Lp (aR (.ref cd) (.int (-1)) H3) λv H4=>pT v (kP s n (some (.ref cd)) none none u1 u2 u3 u4 u5) H4 λlo1 H5=>pZ (sK .next) lo1 H5 (bE R K)) else R (kP s n (some (.ref cd)) none none u1 u2 u3 u4 u5) H3 K):=by rfl'
def kPX(s:Nat)(n:Int)(cd:Nat)(o:Op):Lo:=kP s n (some (.ref cd)) none none (some (.str o.tag.s)) (some (.int o.i1)) (some (.int o.i2)) (some (.int o.j1)) (some (.int o.j2))
theorem pT_i{R:Lo->MH->Prop}(q:R (kPX s n cd o) H):pT o.v (kP s n (some (.ref cd)) none none u1 u2 u3 u4 u5) H R:=by
 refine kch (B:=(5=5/\R (upd (upd (upd (upd (upd (kP s n (some (.ref cd)) none none u1 u2 u3 u4 u5) "tag" (.str o.tag.s)) "i1" (.int o.i1)) "i2" (.int o.i2)) "j1" (.int o.j1)) "j2" (.int o.j2)) H)) ⋯ ⟨rfl,?_⟩
 unfold kP
 rw[aD,aD,aD,aD,aD]
 exact q
theorem pA_nf(R:SF):pA R (kPX s n cd o) H K=(5<100/\Lf (oS (.ref cd) (.int 0) (o.tl n).v H) λH'=>R (kPX s n cd o) H' K):=by rfl'
theorem pZ_nf(R:SF):pZ R (kPX s n cd o) H K=(5<100/\Lf (oS (.ref cd) (.int (-1)) (o.hd n).v H) λH'=>R (kPX s n cd o) H' K):=by rfl'
theorem gp_56(X:XX C):aA (pW X) (aA (pU X) (sK .next)) (kP s n (some (.ref cd)) none none u1 u2 u3 u4 u5) H K=K .next (upd (upd (kP s n (some (.ref cd)) none none u1 u2 u3 u4 u5) "nn" (.int (n+n))) "group" (.ref H.length)) (H++[.list []]):=by rfl'
theorem gp_56n{gr:Nat}:upd (upd (kP s n (some (.ref cd)) none none u1 u2 u3 u4 u5) "nn" (.int (n+n))) "group" (.ref gr)=kL s n cd gr u1 u2 u3 u4 u5:=by
 unfold kP kL
 rw[aD,aD];kernel_rfl
end
theorem yI(n:Nat):seqIndex? (-1) (n+1)=some n:=by
 unfold seqIndex?
 rw[if_pos (by decide:(-1:Int)<0)]
 have e: -1+((n+1:Nat):Int)=n:=A211
 rw[e]
 exact if_pos (by rw[decide_eq_true (natCast_nonneg n),decide_eq_true (by exact A212:(n:Int)<((n+1:Nat):Int))];rfl)
theorem seq_0(n:Nat):seqIndex? 0 (n+1)=some 0:=f6 (Int.le_refl 0) A213
theorem pO{cd j:Nat}{i:Int}{vs:List V}{v:V}(h:H[cd]? =some (.list vs))(b: -1000000<i/\i<1000000)(e:seqIndex? i vs.length=some j)(hv:vs[j]? =some v):aR (.ref cd) (.int i) H=some (v,H):=by
 show((lst H (.ref cd)).bind (at_ i)).map _=_
 rw[aX h]
 show(at_ i vs).map _=_
 unfold at_
 rw[if_pos b,e]
 show(vs[j]?).map _=_
 rw[hv];rfl
theorem yG{cd j:Nat}{i:Int}{vs:List V}{v:V}(h:H[cd]? =some (.list vs))(b: -1000000<i/\i<1000000)(e:seqIndex? i vs.length=some j):oS (.ref cd) (.int i) v H=some (H.set cd (.list (vs.set j v))):=by
 show H[cd]?.bind (setO H cd i v)=_
 rw[h]
 show(if-1000000<i/\i<1000000 then(seqIndex? i vs.length).map λj=>H.set cd (.list (vs.set j v)) else none)=_
 rw[if_pos b,e];rfl
theorem xV{o:Op}{Q:EK}(q:Q (.str o.tag.s) H):Lp (aR o.v (.int 0) H) Q:=Lp.mk (v:=.str o.tag.s) (H:=H) rfl q
theorem uZ{g:Tg}{Q:Bool->MH->Prop}(q:Q g.isEq H):Lp (bG id (.str g.s) (.str "equal") H) λe H3=>Lf (tr e H3) λt=>Q t H3:=Lp.mk (v:=.bool g.isEq) (H:=H) (by unfold bG;rw[qL];rfl) (Lf.mk (p:=g.isEq) rfl q)
section
variable {s cd:Nat}{n:Int}{u1 u2 u3 u4 u5:Option V}{o:Op}{K:SK}{R:SF}
theorem n4(l:List Op):mZ n (o::l)=(bif o.tag.isEq then o.tl n else o)::l:=rfl
theorem gp3_i(X:XX C){l:List Op}(h:H[cd]? =some (.list ((o::l).map Op.v)))(k:∀ {H' u1 u2 u3 u4 u5},Ex H H' cd->H'[cd]? =some (.list ((mZ n (o::l)).map Op.v))->R (kP s n (some (.ref cd)) none none u1 u2 u3 u4 u5) H' K):aA (lJ X) R (kP s n (some (.ref cd)) none none u1 u2 u3 u4 u5) H K:=by
 have b0: -1000000<(0:Int)/\(0:Int)<1000000:=by decide
 have ix:=seq_0 (l.map Op.v).length
 have e1:=pO h b0 ix (v:=o.v) rfl
 refine kch (gp_3 X R) (Lp.mk e1 (xV (uZ (Q:=λt H3=>bif t then _ else _) ?_)))
 rw[n4]at k
 cases e:o.tag.isEq with
 |false=>rw[e]at k;exact bR (k (λ_ _ _ q=>q) h)
 |true=>
  rw[e]at k
  exact bX (Lp.mk e1 (pT_i (kch (pA_nf (sK .next)) ⟨by decide,Lf.mk (yG h b0 ix) (k .set (aJ h _))⟩)))
theorem j7:∀ l:List Op,fI n (l++[o])=l++[bif o.tag.isEq then o.hd n else o]
 | []=>rfl
 | [x]=>rfl
 |x::y::l=>by
  show x::fI n (y::l++[o])=_
  rw[j7 (y::l)];rfl
theorem gp4_i(X:XX C){l:List Op}(h:H[cd]? =some (.list ((l++[o]).map Op.v)))(k:∀ {H' u1 u2 u3 u4 u5},Ex H H' cd->H'[cd]? =some (.list ((fI n (l++[o])).map Op.v))->R (kP s n (some (.ref cd)) none none u1 u2 u3 u4 u5) H' K):aA (lI X) R (kP s n (some (.ref cd)) none none u1 u2 u3 u4 u5) H K:=by
 have b0: -1000000<(-1:Int)/\(-1:Int)<1000000:=by decide
 rw[map_append]at h
 have ix:seqIndex? (-1) (l.map Op.v++[o].map Op.v).length=some (l.map Op.v).length:=by rw[length_append];exact yI _
 have e1:=pO h b0 ix (v:=o.v) (by rw[getElem?_append_right (le_refl _),sub_self];rfl)
 refine kch (gp_4 X R) (Lp.mk e1 (xV (uZ (Q:=λt H3=>bif t then _ else _) ?_)))
 rw[j7]at k
 cases e:o.tag.isEq with
 |false=>rw[e,map_append]at k;exact bR (k (λ_ _ _ q=>q) h)
 |true=>
  rw[e,map_append]at k
  refine bX (Lp.mk e1 (pT_i (kch (pZ_nf (sK .next)) ⟨by decide,Lf.mk (yG h b0 ix) (k .set ?_)⟩)))
  have:=aJ h (.list ((l.map Op.v++[o].map Op.v).set (l.map Op.v).length (o.hd n).v))
  rw[List.set_append_right _ _ (le_refl _),sub_self]at this ⊢
  exact this
end
end
section
variable {C:Cx}{H:MH}{a b:List Int}
section
variable {s cd:Nat}{n:Int}{u1 u2 u3 u4 u5:Option V}{K:SK}{R:SF}
theorem gp2_i(X:XX C){l:List Op}(h:H[cd]? =some (.list (l.map Op.v)))(hl:l.length<1000000)(k:∀ {H' cd'},Hx H H'->H'[cd']? =some (.list ((gN l).map Op.v))->(l≠ []/\cd'=cd)\/(l= []/\cd'=H.length)->R (kP s n (some (.ref cd')) none none u1 u2 u3 u4 u5) H' K):aA (lK X) R (kP s n (some (.ref cd)) none none u1 u2 u3 u4 u5) H K:=by
 refine kch (gp_2 X R) (Lf.mk (oH h (by rw[length_map];exact hl)) ?_)
 cases l with
 |nil=>
  refine bX ⟨by decide,?_⟩
  unfold kP at k ⊢
  rw[aD]
  exact k (.app _ _) (bU _ _) (.inr ⟨rfl,rfl⟩)
 |cons o l=>exact bR (k (.refl _) h (.inl ⟨nofun,rfl⟩))
end
def gR3(X:XX C):SF:=aA (lJ X) (aA (lI X) (aA (pW X) (aA (pU X) (sK .next))))
theorem kU(l:List Op):∃ o l',gN l=o::l':=by
 cases l with
 |nil=>exact⟨_,_,rfl⟩
 |cons o l=>exact⟨o,l,rfl⟩
theorem tT(l:List Op):(gN l).length<=l.length+1:=by
 cases l with
 |nil=>exact le_refl 1
 |cons o l=>exact le_succ _
theorem aA8(n:Int)(l:List Op):∃ L o,mZ n (gN l)=L++[o]:=by
 refine xEE (kU l) λo l' e=>?_
 rw[e,n4]
 rcases List.eq_nil_or_concat ((bif o.tag.isEq then o.tl n else o)::l') with h |⟨L,x,h⟩
 ·cases h
 ·exact⟨L,x,by rw[h,List.concat_eq_append]⟩
theorem gp34_i(X:XX C){s cd:Nat}{n:Int}{u1 u2 u3 u4 u5:Option V}{K:SK}{l:List Op}(h:H[cd]? =some (.list ((gN l).map Op.v)))(k:∀ {H' u1 u2 u3 u4 u5},Ex H H' cd->H'[cd]? =some (.list ((fI n (mZ n (gN l))).map Op.v))->K .next (kL s n cd H'.length u1 u2 u3 u4 u5) (H'++[.list []])):gR3 X (kP s n (some (.ref cd)) none none u1 u2 u3 u4 u5) H K:=by
 refine xEE (kU l) λo l' e=>?_
 refine xEE (aA8 n l) λL x e2=>?_
 rw[e]at h
 refine gp3_i X h λ{H1 u1 u2 u3 u4 u5} x1 h1=>?_
 rw[<-e,e2]at h1
 refine gp4_i X h1 λ{H2 u1 u2 u3 u4 u5} x2 h2=>kch (gp_56 X) ?_
 rw[gp_56n]
 rw[<-e2]at h2
 exact k (x1.trans x2) h2
end
section
variable {C:Cx}{H:MH}{a b:List Int}
theorem Ops.len_r{l:List Op}(h:Ops a b l)(rl:∀ r,Run a b [⟨0,a.length,0,b.length⟩] [] r->r.length<64):l.length<=200:=by
 refine xEA h λbl z196 h3=>?_;obtain⟨r,h1,h2⟩:=z196
 have e1:=jH (isort T3.i r) ⟨0,0,0⟩
 rw[(b7 T3.i r).length_eq]at e1
 have e3:=uJ bl 0 0
 rw[h2,length_append,length_singleton,<-h2]at e3
 rw[h3]
 exact A309 (rl r h1) e1 (le_refl _) e3
theorem Ops.len{l:List Op}(h:Ops a b l)(al:a.length<64):l.length<=200:=h.len_r λr h=>lt_of_le_of_lt h.len al
theorem rZ(n:Int)(l:List Op):(mZ n l).length=l.length:=by cases l<;>rfl
theorem mE(n:Int):∀ l:List Op,(fI n l).length=l.length
 | []=>rfl
 | [x]=>rfl
 |x::y::l=>by
  show(x::fI n (y::l)).length=_
  rw[length_cons,mE n (y::l)];rfl
def gD(n:Int):List Op->List Op
 | []=>[]
 |o::l=>fI n (mZ n (o::l))
theorem rY(n:Int):∀ l:List Op,(gD n l).length=l.length
 | []=>rfl
 |o::l=>by
  show(fI n (mZ n (o::l))).length=_
  rw[mE,rZ]
theorem Hx.no{B:MH}{r:Nat}(x:Hx B H)(h:H[r]? =none):B[r]? =none:=by
 cases c:B[r]? with
 |none=>rfl
 |some m=>exact aG (h.symm.trans (x _ _ c))
section
variable {B:MH}{s:Nat}{W:List Op}
end
end
section
variable {a b:List Int}{n:Int}
def eqO(i j k:Int):Op:=⟨.eq,i,i+k,j,j+k⟩
def chO(g:Tg)(i j i' j':Int):Op:=⟨g,i,i',j,j'⟩
theorem aDq{g:Tg}(h:g≠ .eq):g.isEq=false:=by
 cases g with
 |eq=>exact absurd rfl h
 |_=>rfl
theorem pX{o:Op}(h:o.tag.isEq=false):∀ l:List Op,fI n (o::l)=o::fI n l
 | []=>by
  show [bif o.tag.isEq then o.hd n else o]= [o]
  rw[h];rfl
 |x::l=>rfl
theorem lH{o:Op}(h:o.tag.isEq=false)(cur l:List Op):grps n cur (o::l)=grps n (cur++[o]) l:=by
 have:nI n o=false:=by unfold nI;rw[h];rfl
 rw[hY,this];rfl
theorem aD0(cur:List Op)(x y:Op)(l:List Op):iQ (cur++(x::y::l))=true:=by
 cases cur with
 |nil=>rfl
 |cons z t=>cases t<;>rfl
theorem tD{cur:List Op}(h:iQ cur=true)(x:Op):iQ (cur++[x])=true:=by
 cases cur with
 |nil=>cases h
 |cons z t=>cases t<;>rfl
theorem big_eq{i j k:Int}:nI n (eqO i j k)=decide (n+n<k):=by
 show decide (i+k-i>n+n)=_
 rw[show i+k-i=k from A214]
theorem tZ{o:Op}(n0:0<=n):nI n (o.hd n)=false:=by
 have: ¬(min o.i2 (o.i1+n)-o.i1>n+n):=by
  have:=Int.min_le_right o.i2 (o.i1+n)
  exact A215 n0
 show(o.tag.isEq && decide (min o.i2 (o.i1+n)-o.i1>n+n))=false
 rw[decide_eq_false this,Bool.and_false]
inductive CoI(a b:List Int)(f:Option Bool)(i j:Int):Op->List Op->Prop
 |eq {k:Int}{l:List Op} (hf:f≠some true) (p:0<k) (m:Mt a b i j k) (h:Cod a b (some true) (i+k) (j+k) l):CoI a b f i j (eqO i j k) l
 |ch {i' j':Int}{g:Tg}{l:List Op} (hf:f≠some false) (hg:g.isEq=false) (hi:i<=i') (hj:j<=j') (h:Cod a b (some false) i' j' l):CoI a b f i j (chO g i j i' j') l
theorem Cod.inv{f:Option Bool}{i j:Int}{o:Op}{l:List Op}(h:Cod a b f i j (o::l)):CoI a b f i j o l:=by
 generalize e:o::l=L at h
 cases h with
 |nil=>cases e
 |eq hf p m h=>cases e;exact .eq hf p m h
 |ch hf hg hi hj lt h=>cases e;exact .ch hf (aDq hg) hi hj h
theorem big_tl{o:Op}(n0:0<=n):nI n (o.tl n)=false:=by
 have: ¬(o.i2-max o.i1 (o.i2-n)>n+n):=by
  have:=le_max_right o.i1 (o.i2-n)
  exact A219 n0
 show(o.tag.isEq && decide (o.i2-max o.i1 (o.i2-n)>n+n))=false
 rw[decide_eq_false this,Bool.and_false]
end
section
variable {a b:List Int}{n:Int}
def sl(l:List Int)(i j:Int):List Int:=(l.drop i.toNat).take (j.toNat-i.toNat)
end
section
variable {C:Cx}{H B:MH}
class inductive Its(K:ItK C)(B:MH):K.σ->List V->Prop
 |nil {it:K.σ} (h:∀ {H:MH}{P:Option (V×K.σ)->MH->Prop},Hx B H->P none H->K.nx it H P):Its K B it []
 |cons {it it':K.σ}{v:V}{vs:List V} (h:∀ {H:MH}{P:Option (V×K.σ)->MH->Prop},Hx B H->P (some (v,it')) H->K.nx it H P) (t:Its K B it' vs):Its K B it (v::vs)
theorem rP{r:Nat}{vs:List V}(hl:lst B (.ref r)=some vs):∀ (rest:List V) (p:Nat),vs.drop p=rest->Its (cU C) B (r,p) rest
 | [],p,hd=>.nil λ{H P} hx q=>Lf.mk (p:=none) (by
   show(lst H (.ref r)).map _=_
   rw[hx.lst hl,map_some,getElem?_eq_none (List.drop_eq_nil_iff.mp hd)];rfl) q
 |v::rest,p,hd=>.cons (λ{H P} hx q=>Lf.mk (p:=some (v,(r,p+1))) (by
   show(lst H (.ref r)).map _=_
   rw[hx.lst hl,map_some,show vs[p]? =some v from by rw[<-List.head?_drop,hd];rfl];rfl) q)
  (rP hl rest (p+1) (by rw[<-List.drop_drop,hd];rfl))
def turnC(tgt:AF)(t:TF)(bf:Lo->MH->LK->Prop)(v:V):Lo->MH->LK->Prop:=λlo H P=>tgt v lo H λlo1 H1=>t lo1 H1 λb H2=>bif b then bf lo1 H2 P else P lo1 H2
theorem iL_i{f:EF}{lo:Lo}{r:Nat}{vs:List V}{P:Nat×Nat->MH->Prop}(hf:∀ {Q:EK},Q (.ref r) H->f lo H Q)(hl:lst H (.ref r)=some vs)(q:P (r,0) H):iL f lo H P:=hf (Lf.mk (p:=r) rfl ⟨⟨_,hl⟩,q⟩)
theorem q7{xs:List PyData}(h:PyData.canLayAll0 xs=true)(d:(PyData.list xs).depth<=64):PySem.SeqAt.shaped (.list xs)=true:=by
 unfold PySem.SeqAt.shaped
 rw[decide_eq_true d,Bool.and_true];exact h
theorem aBm{x y:V}{d:PyData}(h1:rd H eqD x=some d)(h2:rd H eqD y=some d)(s:PySem.SeqAt.shaped d=true):eqv H x y=some true:=by
 unfold eqv
 rw[h1,h2]
 show(if (PySem.SeqAt.shaped d && PySem.SeqAt.shaped d)=true then some (PyData.eqv d d) else none)=some true
 rw[s]
 refine congrArg some (PySem.SeqAt.eqv_refl d ?_)
 unfold PySem.SeqAt.shaped at s
 exact(and_eq_true_iff.mp s).1
end
section
variable {C:Cx}{H B:MH}
theorem rdMs{α:Type}{n:Nat}(f:α->V)(d:α->PyData):∀ l:List α,(∀ x∈l,rd H n (f x)=some (d x))->(l.map f).mapM (rd H n)=some (l.map d)
 | [],_=>rfl
 |x::l,h=>by
  rw[map_cons,mapM_cons,h x mem_cons_self,rdMs f d l λy hy=>h y (mem_cons_of_mem _ hy)];rfl
theorem lG{α:Type}{r n:Nat}(f:α->V)(d:α->PyData){l:List α}(hl:lst H (.ref r)=some (l.map f))(h:∀ x∈l,rd H n (f x)=some (d x)):rd H (n+1) (.ref r)=some (.list (l.map d)):=by
 show(lst H (.ref r)).bind (λvs=>(vs.mapM (rd H n)).map PyData.list)=_
 rw[hl]
 show((l.map f).mapM (rd H n)).map PyData.list=_
 rw[rdMs f d l h];rfl
theorem uL{α:Type}(d:α->PyData){m:Nat}:∀ l:List α,(∀ x∈l,(d x).canLay0=true/\(d x).depth<=m)->PyData.canLayAll0 (l.map d)=true/\PyData.depthAll (l.map d)<=m
 | [],_=>⟨rfl,zero_le _⟩
 |x::l,h=>by
  have h1:=h x mem_cons_self
  have h2:=uL d l λy hy=>h y (mem_cons_of_mem _ hy)
  refine⟨?_,Nat.max_le.mpr ⟨h1.2,h2.2⟩⟩
  show((d x).canLay0 && PyData.canLayAll0 (l.map d))=true
  rw[h1.1,h2.1];rfl
theorem nQ{α:Type}{d:α->PyData}{l:List α}(h:∀ x∈l,(d x).canLay0=true/\(d x).depth<=9):PySem.SeqAt.shaped (.list (l.map d))=true:=q7 (uL d l h).1 (Nat.succ_le_of_lt (lt_of_le_of_lt (uL d l h).2 (by decide)))
def dO(o:Op):PyData:=.tuple [.str o.tag.s,.int o.i1,.int o.i2,.int o.j1,.int o.j2]
theorem dO_rd6(o:Op):rd H 6 o.v=some (dO o):=rfl
theorem dO_ok(o:Op):(dO o).canLay0=true/\(dO o).depth<=9:=⟨by
 obtain⟨t,_,_,_,_⟩:=o
 cases t<;>kernel_rfl,(by decide:1<=9)⟩
def pk{α:Type}(vs:List α)(lo hi st:Option Int):List α:=(sliceRange (sliceBounds lo hi st vs.length).1 (sliceBounds lo hi st vs.length).2.1 (sliceBounds lo hi st vs.length).2.2).filterMap (vs[·]?)
theorem pk_V(vs:List V)(lo hi st:Option Int):uI vs lo hi st=pk vs lo hi st:=rfl
theorem yS{α β:Type}(g:α->β)(vs:List α)(lo hi st:Option Int):pk (vs.map g) lo hi st=(pk vs lo hi st).map g:=by
 unfold pk
 rw[length_map,List.map_filterMap]
 congr 1
 funext i
 exact getElem?_map
theorem pk_len{α:Type}(vs:List α)(lo hi st:Option Int):(pk vs lo hi st).length<=vs.length:=by
 have h:=slicePick_size_le (vs.map λ_=>Value.none).toArray lo hi st
 have e:(slicePick (vs.map λ_=>Value.none).toArray lo hi st).size=(pk (vs.map λ_=>Value.none) lo hi st).length:=by
  unfold slicePick pk
  rw[size_toArray,size_toArray]
  exact congrArg (λg=>(List.filterMap g _).length) (funext λi=>List.getElem?_toArray)
 rw[e,yS,length_map]at h
 exact Nat.le_trans h (by rw[size_toArray,length_map];exact le_refl _)
theorem yR{α:Type}(vs:List α)(lo hi:Option Int):pk vs lo hi none=(vs.drop (lo.elim 0 (clipAt vs.length))).take (hi.elim vs.length (clipAt vs.length)-lo.elim 0 (clipAt vs.length)):=by
 unfold pk
 rw[sliceBounds_plain]
 have e:(λi:Nat=>vs.toArray[i]?)=λi=>vs[i]? :=funext λi=>List.getElem?_toArray
 rw[<-e]
 show(sliceRange _ _ 1).filterMap (vs.toArray[·]?)=_
 rw[sliceRange_one,pick_run]
theorem vP{n:Nat}{x:Int}(h0:0<=x)(h1:x<=n):clipAt n x=x.toNat:=by
 refine xE (Int.eq_ofNat_of_zero_le h0) λm z194=>?_;subst z194
 rw[clipAt_nat,Nat.min_eq_left (ofNat_le.mp h1),toNat_natCast]
theorem pk_sl{l:List Int}{i j:Int}(h0:0<=i)(h1:i<=j)(h2:j<=l.length):pk (l.map V.int) (some i) (some j) none=(sl l i j).map V.int:=by
 rw[yS,yR]
 show((l.drop (clipAt l.length i)).take (clipAt l.length j-clipAt l.length i)).map V.int=_
 rw[vP h0 (le_trans h1 h2),vP (le_trans h0 h1) h2];rfl
theorem slc_i{r:Nat}{vs:List V}{lo hi st:Option Int}{Q:EK}(h:lst H (.ref r)=some vs)(hl:vs.length<1000000)(hst:st≠some 0)(q:Q (.ref H.length) (H++[.list (pk vs lo hi st)])):Lp (slc (.ref r) lo hi st H) Q:=by
 refine Lp.mk (v:=.ref H.length) (H:=H++[.list (pk vs lo hi st)]) ?_ q
 show(lst H (.ref r)).bind _=_
 rw[h]
 show(if vs.length<1000000/\st≠some 0 then mkL (uI vs lo hi st) H else none)=_
 rw[if_pos ⟨hl,hst⟩,pk_V]
 exact if_pos (lt_of_le_of_lt (pk_len ..) hl)
theorem uH{r r':Nat}{vs ws:List V}{Q:EK}(h:lst H (.ref r)=some vs)(h':lst H (.ref r')=some ws)(hl:vs.length+ws.length<1000000)(q:Q (.ref H.length) (H++[.list (vs++ws)])):Lp (aI (.ref r) (.ref r') H) Q:=by
 refine Lp.mk (v:=.ref H.length) (H:=H++[.list (vs++ws)]) ?_ q
 show(lst H (.ref r)).bind (λxs=>(lst H (.ref r')).bind λys=>mkL (xs++ys) H)=_
 rw[h,h']
 exact if_pos (by rw[length_append];exact hl)
theorem mA:∀ l:List Int,iS (l.map V.int)=some l
 | []=>rfl
 |x::l=>by
  have:=mA l
  unfold iS at this ⊢
  rw[map_cons,mapM_cons,this];rfl
theorem sum_i{r:Nat}{l:List Int}{Q:EK}(h:lst H (.ref r)=some (l.map V.int))(q:Q (.int l.sum) H):cSum [.ref r] H Q:=by
 refine Lp.mk (v:=.int l.sum) (H:=H) ?_ q
 show(lst H (.ref r)).bind (λxs=>(iS xs).map λis=>(V.int is.sum,H))=_
 rw[h]
 show(iS (l.map V.int)).map _=_
 rw[mA];rfl
theorem lenM_i{r:Nat}{vs:List V}{Q:EK}(h:lst H (.ref r)=some vs)(hl:vs.length<1000000)(q:Q (.int vs.length) H):d5 [.ref r] H Q:=by
 refine Lp.mk (v:=.int vs.length) (H:=H) ?_ q
 show(lst H (.ref r)).bind _=_
 rw[h]
 exact if_pos hl
end
section
variable {a b c d e f g h i j k l:Int}{m n p q r s t u v w x y:Nat}
theorem Yb182:a<=b->min a b=a:=Z.R 0x1000040001001041028a680c3a68087 [a,b] []
theorem Yb183:0<=a->b<=c/\d<=e->max b (c-a)<=c/\max d (e-a)<=e:=Z.R 0x40000041001000040000041000040b28b01ac20aaa2a06908216cac2aa90851e803d087 [a,b,c,d,e] []
theorem Yb184:0<=a->0<=b->(0:Int)<=min a b:=Z.R 0x40001040040a680c0f42a40f421e803d087 [a,b] []
theorem Yb185:min a (max b (a-c)+c)=a:=Z.R 0x1000040001000040001000040001001041028aaaa01a420280c3 [a,b,c] []
theorem Yb186:min (min a (b+c)) (b+d)=min a (b+min d c):=Z.R 0x100000004000000104000004000100100000004000000104000004000004104000004000100100000004000000100100104000100100100004000104104100004000004100100004000100104000004000004100000004000000104000004000104100000004000000104100004000104100100004000102aac3a40a03ae902aa40a030c3 [a,b,c,d] []
theorem Yb187:max (max a (b-c)) (b-d)=max a (b-min d c):=Z.R 0x100000004000000100004104100000100004004004000100004104104000100004004004000100000104104000100000004000000100000104100000100000004000000100004004100000100004104004000100004004004004100004004100000100000004000000100000104100000100000004000002aac3a41a02ae906aa41a02083 [a,b,c,d] []
end
section
theorem tl_tl(o:Op)(m n:Int):(o.tl m).tl n=o.tl (min n m):=by
 show Op.mk o.tag (max (max o.i1 (o.i2-m)) (o.i2-n)) o.i2 (max (max o.j1 (o.j2-m)) (o.j2-n)) o.j2=Op.mk o.tag (max o.i1 (o.i2-min n m)) o.i2 (max o.j1 (o.j2-min n m)) o.j2
 congr 1
 ·exact Yb187
 ·exact Yb187
theorem hd_hd(o:Op)(m n:Int):(o.hd m).hd n=o.hd (min n m):=by
 show Op.mk o.tag o.i1 (min (min o.i2 (o.i1+m)) (o.i1+n)) o.j1 (min (min o.j2 (o.j1+m)) (o.j1+n))=Op.mk o.tag o.i1 (min o.i2 (o.i1+min n m)) o.j1 (min o.j2 (o.j1+min n m))
 congr 1
 ·exact Yb186
 ·exact Yb186
theorem hd_tl(o:Op){m:Int}(m0:0<=m)(h:o.i1<=o.i2)(h':o.j1<=o.j2):(o.tl m).hd m=o.tl m:=by
 show Op.mk o.tag (max o.i1 (o.i2-m)) (min o.i2 (max o.i1 (o.i2-m)+m)) (max o.j1 (o.j2-m)) (min o.j2 (max o.j1 (o.j2-m)+m))=Op.mk o.tag (max o.i1 (o.i2-m)) o.i2 (max o.j1 (o.j2-m)) o.j2
 congr 1
 ·exact Yb185
 ·exact Yb185
def tlE(n:Int)(o:Op):Op:=bif o.tag.isEq then o.tl n else o
def hdE(n:Int)(o:Op):Op:=bif o.tag.isEq then o.hd n else o
theorem tlE_t(n:Int)(o:Op):(tlE n o).tag=o.tag:=by unfold tlE;cases o.tag.isEq<;>rfl
theorem xR(o:Op)(m n:Int):tlE n (tlE m o)=tlE (min n m) o:=by
 cases e:o.tag.isEq with
 |false=>unfold tlE;rw[e,cond_false,cond_false,e];rfl
 |true=>
  have:tlE m o=o.tl m:=by unfold tlE;rw[e];rfl
  rw[this]
  unfold tlE
  rw[show (o.tl m).tag.isEq=true from e,e,cond_true,cond_true,tl_tl]
theorem hdE_2(o:Op)(m n:Int):hdE n (hdE m o)=hdE (min n m) o:=by
 cases e:o.tag.isEq with
 |false=>unfold hdE;rw[e,cond_false,cond_false,e];rfl
 |true=>
  have:hdE m o=o.hd m:=by unfold hdE;rw[e];rfl
  rw[this]
  unfold hdE
  rw[show (o.hd m).tag.isEq=true from e,e,cond_true,cond_true,hd_hd]
theorem tH(o:Op){m:Int}(m0:0<=m)(h:o.i1<=o.i2)(h':o.j1<=o.j2):hdE m (tlE m o)=tlE m o:=by
 cases e:o.tag.isEq with
 |false=>unfold hdE;rw[tlE_t,e];rfl
 |true=>
  have:tlE m o=o.tl m:=by unfold tlE;rw[e];rfl
  rw[this]
  unfold hdE
  rw[show (o.tl m).tag.isEq=true from e,cond_true,hd_tl o m0 h h']
theorem tL(n:Int)(o:Op):gD n [o]= [hdE n (tlE n o)]:=rfl
theorem tJ(n:Int)(o:Op)(L:List Op)(z:Op):gD n (o::(L++[z]))=tlE n o::(L++[hdE n z]):=by
 show fI n ((tlE n o::L)++[z])=_
 rw[j7];rfl
theorem aA9{n m:Int}(n0:0<=n)(m0:0<=m){l:List Op}(hs:∀ o,l= [o]->o.i1<=o.i2/\o.j1<=o.j2):gD n (gD m l)=gD (min n m) l:=by
 cases l with
 |nil=>rfl
 |cons o l=>
  rcases List.eq_nil_or_concat l with rfl |⟨L,z,rfl⟩
  ·have v:=hs o rfl
   rw[tL,tL,tL,tH o m0 v.1 v.2,xR,tH o (show 0<=min n m by exact Yb184 n0 m0) v.1 v.2]
   have v2:(tlE m o).i1<=(tlE m o).i2/\(tlE m o).j1<=(tlE m o).j2:=by
    unfold tlE
    cases o.tag.isEq with
    |false=>exact v
    |true=>
     show max o.i1 (o.i2-m)<=o.i2/\max o.j1 (o.j2-m)<=o.j2
     exact Yb183 m0 v
   have:=tH (tlE m o) n0 v2.1 v2.2
   rw[xR]at this
   rw[this]
  ·rw[List.concat_eq_append,tJ,tJ,tJ,xR,hdE_2]
theorem rS{n:Int}{l:List Op}(h:l≠ []):groups n l=grps n [] (gD n l):=by
 cases l with
 |nil=>exact absurd rfl h
 |cons o l=>rfl
theorem aAv{n m:Int}(n0:0<=n)(nm:n<=m){l:List Op}(hs:∀ o,l= [o]->o.i1<=o.i2/\o.j1<=o.j2):groups n (gD m l)=groups n l:=by
 cases l with
 |nil=>rfl
 |cons o l=>
  have:gD m (o::l)≠ []:=λe=>by
   have:=congrArg List.length e
   rw[rY]at this
   cases this
  rw[rS this,rS (List.cons_ne_nil _ _),aA9 n0 (le_trans n0 nm) hs,show min n m=n by exact Yb182 nm]
end
section
variable {C:Cx}{H B:MH}
def Ke(H H':MH)(gi it:Nat):Prop:=∀ (r:Nat) (m:MO),r≠gi->r≠it->H[r]? =some m->H'[r]? =some m
inductive GnT(n:Int)(H:MH)(gi it cd:Nat):List (List Op)->Prop
 |loop {s gr p:Nat}{o:Op}{all:List Op} (g:H[gi]? =some (.gen (.loop it (kX s n cd gr o)))) (c:H[cd]? =some (.list (all.map Op.v))) (i:H[it]? =some (.itr (some (cd,p)))) (pl:p<=all.length) (al:all.length<=900):GnT n H gi it cd (grps n [o.tl n] (all.drop p))
 |last {lo:Lo} (g:H[gi]? =some (.gen (.last lo))):GnT n H gi it cd []
section
variable {n:Int}{gi it cd:Nat}{gs:List (List Op)}
theorem GnT.to{H':MH}(G:GnT n H gi it cd gs)(k:∀ (r:Nat) (m:MO),r=gi\/r=it\/r=cd->H[r]? =some m->H'[r]? =some m):GnT n H' gi it cd gs:=by
 cases G with
 |loop g c i pl al=>exact .loop (k _ _ (.inl rfl) g) (k _ _ (.inr (.inr rfl)) c) (k _ _ (.inr (.inl rfl)) i) pl al
 |last g=>exact .last (k _ _ (.inl rfl) g)
theorem rU(X:XX C)(G:GnT n H gi it cd gs)(ic:it≠cd)(ig:it≠gi)(gc:gi≠cd){Q:Option V->MH->Prop}(k0:∀ {H'},gs= []->Ke H H' gi it->Q none H')(k1:∀ {H' r g gs'},gs=g::gs'->Ke H H' gi it->H'[r]? =some (.list (g.map Op.v))->H[r]? =none->GnT n H' gi it cd gs'->(∃ m,H'[it]? =some m)->Q (some (.ref r)) H'):(gfn X).nx gi H Q:=by
 cases G with
 |last g=>exact Lf.mk (u7 g) (k0 rfl λr m q _ e=>aH e q.symm)
 | @loop s gr p o all g c i pl al=>
  refine Lf.mk (u7 g) ?_
  show g_f2 X (kX s n cd gr o) (H.set gi (.gen .run)) _
  refine gf2_i X ?_
  have rn:=aJ g (.gen .run)
  have keep:∀ (r:Nat) (m:MO),gi≠r->H[r]? =some m->(H.set gi (.gen .run))[r]? =some m:=λr m q e=>aH e q
  have c1:=keep _ _ gc c
  have i1:=keep _ _ ig.symm i
  have fr:H[(H.set gi (MO.gen .run)).length]? =none:=getElem?_eq_none (by rw[List.length_set];exact le_refl _)
  revert rn c1 i1 keep fr
  generalize H.set gi (.gen .run)=H1
  intro rn keep c1 i1 fr
  show g_f3 X (kX s n cd H1.length (o.tl n)) (H1++[.list []]) _
  have k3:∀ (r:Nat) (m:MO),H1[r]? =some m->((H1++[MO.list []]).set H1.length (.list ([]++[(o.tl n).v])))[r]? =some m:=λr m e=>aH (Hx.app _ _ _ _ e) (cG e)
  have ki:∀ {H':MH},Ex2 ((H1++[MO.list []]).set H1.length (.list ([]++[(o.tl n).v]))) H' it H1.length->∀ (r:Nat) (m:MO),it≠r->H1[r]? =some m->H'[r]? =some m:=λe r m q h=>e _ _ q (cG h) (k3 _ _ h)
  have kk:∀ {H':MH}{m:MO},Ex2 ((H1++[MO.list []]).set H1.length (.list ([]++[(o.tl n).v]))) H' it H1.length->Ke H (H'.set gi m) gi it:=λe r m q1 q2 h=>aH (ki e r m q2.symm (keep r m q1.symm h)) q1.symm
  refine gf3_i X (vs:=[]) (bU _ _) (by decide) ⟨_,pE X (p0:=p) ic (cG i1).symm (cG c1) (all.drop p) (cur:=[o.tl n]) (le_refl _) rfl (k3 _ _ c1) (k3 _ _ i1) (aJ (bU _ _) _) ?_ ?_⟩
  ·rw[List.length_drop,length_singleton];exact A206 al
  ·refine⟨λ{H' o' p' g} e hi hg et h0 hpl=>?_,λ{H' lo g} e hg et hm=>?_,λ{H'} e et=>?_⟩
   ·have r':=ki e _ _ ig rn
    exact⟨r',k1 et (kk e) (aH hg (cG rn).symm) fr (.loop (aJ r' _) (aH (ki e _ _ ic c1) gc) (aH hi ig.symm) hpl al) ⟨_,aH hi ig.symm⟩⟩
   ·have r':=ki e _ _ ig rn
    exact⟨r',k1 et (kk e) (aH hg (cG rn).symm) fr (.last (aJ r' _)) (hm.imp λ_ h=>aH h ig.symm)⟩
   ·exact⟨ki e _ _ ig rn,k0 et (kk e)⟩
end
end
section
variable {C:Cx}{H:MH}{a b:List Int}
inductive Mst(X:XX C)(H:MH)(s:Nat)(W:List Op):Option Nat->Prop
 |fresh {ra rb rd rj m:Nat}{fs:Str->Option V}{f:Int->Option V}{a b:List Int} (S:SM H s ra rb rd rj m fs f a b) (hm:fs "matching_blocks" =some .none) (ho:fs "opcodes" =some .none) (al:a.length<200) (rl:∀ r,Run a b [⟨0,a.length,0,b.length⟩] [] r->r.length<64) (hW:∀ l,Ops a b l->l=W):Mst X H s W none
 |kept {fs:Str->Option V}{c:Nat} (h:H[s]? =some (.inst fs)) (hf:fs "opcodes" =some (.ref c)) (hc:H[c]? =some (.list (W.map Op.v))):Mst X H s W (some c)
section
variable {X:XX C}{s:Nat}{W:List Op}{oc:Option Nat}
theorem o9{H':MH}{x r:Nat}{m0:MO}{vs:List V}(hx:H[x]? =some m0)(mv:m0.vs=none)(k:∀ (r:Nat) (m:MO),r≠x->H[r]? =some m->H'[r]? =some m)(e:lst H (.ref r)=some vs):lst H' (.ref r)=some vs:=by
 have e:H[r]?.bind MO.vs=some vs:=e
 show H'[r]?.bind MO.vs=some vs
 refine xEA (bind_eq_some_iff.mp e) λm h1 h2=>?_
 exact bind_eq_some_iff.mpr ⟨m,k _ _ (λq=>by
  subst q
  rw[hx]at h1
  cases h1
  exact aG (mv.symm.trans h2)) h1,h2⟩
theorem SM.off{H':MH}{s ra rb rd rj n x:Nat}{fs:Str->Option V}{f:Int->Option V}{m0:MO}(S:SM H s ra rb rd rj n fs f a b)(hx:H[x]? =some m0)(xs:x≠s)(mv:m0.vs=none)(md:∀ k g,m0≠ .dict k g)(me:m0≠ .eset)(k:∀ (r:Nat) (m:MO),r≠x->H[r]? =some m->H'[r]? =some m):SM H' s ra rb rd rj n fs f a b:=by
 refine⟨k _ _ xs.symm S.o,S.fa,S.fb,S.fd,S.fj,o9 hx mv k S.ia,o9 hx mv k S.ib,k _ _ (λq=>?_) S.d,k _ _ (λq=>?_) S.j,λv=>(S.bj v).imp id fun⟨r,vs,e1,e2,e3⟩=>⟨r,vs,e1,o9 hx mv k e2,e3⟩,S.al,S.bl⟩
 ·subst q;exact md _ _ (Option.some.inj (hx.symm.trans S.d))
 ·subst q;exact me (Option.some.inj (hx.symm.trans S.j))
theorem Mst.off{H':MH}{x:Nat}{m0:MO}(M:Mst X H s W oc)(hx:H[x]? =some m0)(xs:x≠s)(mv:m0.vs=none)(md:∀ k g,m0≠ .dict k g)(me:m0≠ .eset)(k:∀ (r:Nat) (m:MO),r≠x->H[r]? =some m->H'[r]? =some m):Mst X H' s W oc:=by
 cases M with
 |fresh S hm ho al rl hW=>exact .fresh (S.off hx xs mv md me k) hm ho al rl hW
 |kept h hf hc=>
  refine .kept (k _ _ xs.symm h) hf (k _ _ (λq=>?_) hc)
  subst q
  rw[hx]at hc
  cases hc
  cases mv
theorem Mst.o(M:Mst X H s W oc):∃ ff,H[s]? =some (.inst ff):=by
 cases M with
 |fresh S=>exact⟨_,S.o⟩
 |kept h=>exact⟨_,h⟩
theorem Mst.hx{H':MH}(M:Mst X H s W oc)(x:Hx H H'):Mst X H' s W oc:=by
 cases M with
 |fresh S hm ho al rl hW=>exact .fresh (S.hx x) hm ho al rl hW
 |kept h hf hc=>exact .kept (x _ _ h) hf (x _ _ hc)
structure Asked(X:XX C)(H H':MH)(s:Nat)(W:List Op)(oc:Option Nat)(c:Nat):Prop where
 ex:Ex H H' s
 st:Mst X H' s W (some c)
 oc:(oc=some c/\H'=H)\/(oc=none/\c=H.length)
theorem Mst.ask(M:Mst X H s W oc){Q:EK}(k:∀ {H' c},Asked X H H' s W oc c->Q (.ref c) H'):cB X [.ref s] H Q:=by
 cases M with
 |fresh S hm ho al rl hW=>
  exact sZ X S hm ho al rl λ{H2 r l} e1 e2 e3 e4 O=>k ⟨e1,.kept e3 ⋯ (hW l O▸e4),.inr ⟨rfl,rfl⟩⟩
 |kept h hf hc=>
  exact kch (uM X) ⟨rfl,At.mk h hf (Lp.mk (v:=.bool true) (H:=H) rfl (Lf.mk (p:=true) rfl (bX (At.mk h hf (k ⟨λ_ _ _ e=>e,.kept h hf hc,.inl ⟨rfl,rfl⟩⟩)))))⟩
structure G1(X:XX C)(H H':MH)(gi s:Nat)(oc:Option Nat)(W':List Op)(c it cd:Nat):Prop where
 kp:∀ (r:Nat) (m:MO),r≠gi->r≠s->oc≠some r->H[r]? =some m->H'[r]? =some m
 ks:oc≠none->∀ m,H[s]? =some m->H'[s]? =some m
 st:Mst X H' s W' (some c)
 oc:oc=some c\/(oc=none/\H[c]? =none)
 itn:H[it]? =none
 ic:it≠cd
 ig:it≠gi
 gc:gi≠cd
 is_:it≠s
 io:it≠c
 go:gi≠c
 cdn:cd=c\/H[cd]? =none
end
def sH(H:MH)(i:Nat):Nat->Option MO:=λr=>if r=i then none else H[r]?
theorem but1_i{i:Nat}:sH H i i=none:=if_pos rfl
theorem aEn{i:Nat}:Hp (sH H i) H:=λr m e=>by
 unfold sH at e
 split at e
 ·exact aG e
 ·exact e
theorem Hp.b1{H':MH}{i r:Nat}{m:MO}(h:Hp (sH H i) H')(e:H[r]? =some m)(n:r≠i):H'[r]? =some m:=h _ _ ((if_neg n).trans e)
theorem wX(X:XX C){s:Nat}{W:List Op}{oc:Option Nat}{n:Int}{gi:Nat}(M:Mst X H s W oc)(ll:W.length<=200)(hg:H[gi]? =some (.gen (.fresh (loB ["self","n"] [.ref s,.int n] lo0)))){Q:Option V->MH->Prop}(k0:∀ {H' c it cd},groups n W= []->G1 X H H' gi s oc (gD n W) c it cd->Q none H')(k1:∀ {H' r g gs c it cd},groups n W=g::gs->G1 X H H' gi s oc (gD n W) c it cd->H'[r]? =some (.list (g.map Op.v))->H[r]? =none->GnT n H' gi it cd gs->(∃ m,H'[it]? =some m)->r≠c/\r≠it->Q (some (.ref r)) H'):(gfn X).nx gi H Q:=by
 refine Lf.mk (u7 hg) ?_
 show aA3 X (loB ["self","n"] [.ref s,.int n] lo0) _ _
 rw[kP_0]
 rw[kP_0]at hg
 refine xE M.o λff so=>?_
 have gs:gi≠s:=λq=>by
  subst q
  exact absurd (hg.symm.trans so) nofun
 have rr:=aJ hg (MO.gen .run)
 have kp1:∀ (r:Nat) (m:MO),r≠gi->H[r]? =some m->(H.set gi (.gen .run))[r]? =some m:=λr m q e=>aH e q.symm
 have gc0:∀ c,oc=some c->gi≠c:=λc q e=>by
  subst q
  subst e
  cases M with
  |kept h hf hc=>exact absurd (hg.symm.trans hc) nofun
 have M1:Mst X (H.set gi (.gen .run)) s W oc:=M.off hg gs rfl nofun nofun kp1
 have fr1:∀ c:Nat,(H.set gi (MO.gen .run))[c]? =none->H[c]? =none:=λc e=>by
  rw[getElem?_eq_none_iff,List.length_set]at e
  exact getElem?_eq_none e
 revert rr kp1 M1 fr1
 generalize H.set gi (.gen .run)=Hr
 intro rr kp1 M1 fr1
 refine kch (gp_1 X _) ⟨M1.o,M1.ask λ{H2 c} A=>?_⟩
 have r2:=A.ex _ _ gs.symm rr
 have st:=A.st
 have go:gi≠c:=by
  rcases A.oc with ⟨q,_⟩ |⟨_,q⟩
  ·exact gc0 c q
  ·rw[q];exact(cG rr).symm
 have oc':oc=some c\/(oc=none/\H[c]? =none):=by
  rcases A.oc with ⟨q,_⟩ |⟨q1,q2⟩
  ·exact .inl q
  ·exact .inr ⟨q1,fr1 c (q2▸aQ Hr)⟩
 have kp2:∀ (r:Nat) (m:MO),r≠gi->r≠s->H[r]? =some m->H2[r]? =some m:=λr m q1 q2 e=>A.ex _ _ q2.symm (kp1 _ _ q1 e)
 have ks2:oc≠none->∀ m,H[s]? =some m->H2[s]? =some m:=λq m e=>by
  rcases A.oc with ⟨_,z⟩ |⟨z,_⟩
  ·rw[z];exact kp1 _ _ gs.symm e
  ·exact absurd z q
 have fr2:∀ x:Nat,H2[x]? =none->H[x]? =none:=λx e=>by
  cases h:H[x]? with
  |none=>rfl
  |some m=>
   by_cases q1:x=gi
   ·subst q1;exact aG (e.symm.trans r2)
   ·by_cases q2:x=s
    ·subst q2;exact xE st.o λff z=>aG (e.symm.trans z)
    ·exact aG (e.symm.trans (kp2 _ _ q1 q2 h))
 clear A kp1 rr M1 fr1
 cases st with
 | @kept fs _ s2 hf h2=>
 unfold kP
 rw[aD]
 show aA (lK X) (gR3 X) (kP s n (some (.ref c)) none none none none none none none) H2 _
 refine gp2_i X h2 (A310 ll) λ{H3 cd} x3 h3 hcd=>gp34_i X h3 λ{H4 u1 u2 u3 u4 u5} e4 h4=>?_
 have so':cd≠s:=λq=>by
  subst q
  exact absurd (h3.symm.trans (x3 _ _ s2)) nofun
 have fin:(cd=c\/H[cd]? =none)/\gi≠cd/\H4[c]? =some (.list ((gD n W).map Op.v))/\∀ (r:Nat) (m:MO),r≠c->H2[r]? =some m->H4[r]? =some m:=by
  rcases hcd with ⟨ne,rfl⟩ |⟨e,rfl⟩
  ·refine⟨.inl rfl,go,?_,λr m q h=>e4 _ _ q.symm (x3 _ _ h)⟩
   cases W with
   |nil=>exact absurd rfl ne
   |cons o l=>exact h4
  ·refine⟨.inr (fr2 _ (aQ _)),(cG r2).symm,?_,λr m q h=>e4 _ _ (cG h) (x3 _ _ h)⟩
   subst e
   exact e4 _ _ (cG h2) (x3 _ _ h2)
 clear hcd
 refine xAAA fin λcdn gc c4 kp4=>?_
 have r4:=kp4 _ _ go r2
 have scn:s≠c:=λq=>by
  subst q
  exact absurd (h2.symm.trans s2) nofun
 have s4:=kp4 _ _ scn s2
 have g1:∀ {H':MH}{it:Nat},Hp (sH H4 gi) H'->H4[it]? =none->it≠cd->G1 X H H' gi s oc (gD n W) c it cd:=λ{H' it} h hi ic=>
  ⟨λr m q1 q2 q3 e=>h.b1 (kp4 _ _ (λq=>q3 (oc'.elim (λz=>q▸z) λz=>aG (z.2.symm.trans (q▸e)))) (kp2 _ _ q1 q2 e)) q1,
   λq m e=>h.b1 (kp4 _ _ scn (ks2 q m e)) gs.symm,.kept (h.b1 s4 gs.symm) hf (h.b1 c4 go.symm),oc',fr2 _ (by
    cases z:H2[it]? with
    |none=>rfl
    |some m=>
     by_cases q:it=c
     ·subst q;exact aG (hi.symm.trans c4)
     ·exact aG (hi.symm.trans (kp4 _ _ q z))),ic,λq=>aG (hi.symm.trans (q▸r4)),gc,λq=>aG (hi.symm.trans (q▸s4)),λq=>aG (hi.symm.trans (q▸c4)),go,cdn⟩
 have fr4:∀ x:Nat,H4[x]? =none->H[x]? =none:=λx e=>fr2 _ (by
  cases z:H2[x]? with
  |none=>rfl
  |some m=>
   by_cases q:x=c
   ·subst q;exact aG (e.symm.trans c4)
   ·exact aG (e.symm.trans (kp4 _ _ q z)))
 have b4:Hp (sH H4 gi) H4:=aEn
 have alen:(fI n (mZ n (gN W))).length<=201:=by rw[mE,rZ];exact Nat.le_trans (tT W) (succ_le_succ ll)
 have c5:=Hx.app H4 [MO.list []] _ _ h4
 have g5:=bU H4 (.list [])
 have r5:=Hx.app H4 [MO.list []] _ _ r4
 have x5:Hp (sH H4 gi) (H4++[MO.list []]):=b4.hx (.app _ _)
 have i5:H4[(H4++[MO.list []]).length]? =none:=(Hx.app H4 [MO.list []]).fresh
 have gb:=b4.fresh
 have cg:=cG h4
 have rg:=cG r4
 have gfr:=fr4 _ (aQ H4)
 have gn:H4.length≠c/\H4.length≠(H4++[MO.list []]).length:=⟨cG c4,by rw[length_append];exact(succ_ne_self _).symm⟩
 refine kch (B:=((∃ vs,lst (H4++[MO.list []]) (.ref cd)=some vs)/\(gfn X).loop (H4++[MO.list []]).length (kL s n cd H4.length u1 u2 u3 u4 u5) ((H4++[MO.list []])++[.itr (some (cd,0))]) (GFn.finK gi Q))) ⋯ ⟨⟨_,aX c5⟩,?_⟩
 revert c5 g5 r5 x5 gb cg rg i5 gfr gn
 generalize H4.length=gr
 generalize H4++[MO.list []]=H5
 intro c5 g5 r5 x5 i5 gb cg rg gfr gn
 have k6:Hx H5 (H5++[MO.itr (some (cd,0))]):=.app _ _
 have x6:Hp (sH H4 gi) (H5++[MO.itr (some (cd,0))]):=x5.hx k6
 have ic:H5.length≠cd:=cG c5
 have ig:H5.length≠gi:=cG r5
 have bi:=x5.fresh
 have G:=λ{H':MH}{m:MO} (e:Ex2 (H5++[MO.itr (some (cd,0))]) H' H5.length gr)=>g1 (it:=H5.length) ((e.hx x6 bi gb).set (m:=m) but1_i) i5 ic
 refine⟨_,pE X (p0:=0) ic (cG g5) cg (fI n (mZ n (gN W))) (cur:=[]) (le_refl _) rfl (k6 _ _ c5) (bU _ _) (k6 _ _ g5) (by rw[length_nil];exact A311 alen) ⟨λ{H' o' p' g} e hi hg et h0 hpl=>?_,λ{H' lo g} e hg et hm=>?_,λ{H'} e et=>?_⟩⟩
 ·have r':=e _ _ ig rg (k6 _ _ r5)
  exact⟨r',k1 et (G e) (aH hg rg.symm) gfr (.loop (aJ r' _) (aH (e _ _ ic cg (k6 _ _ c5)) gc) (aH hi ig.symm) hpl (Nat.le_trans alen (by decide))) ⟨_,aH hi ig.symm⟩ gn⟩
 ·have r':=e _ _ ig rg (k6 _ _ r5)
  exact⟨r',k1 et (G e) (aH hg rg.symm) gfr (.last (aJ r' _)) (hm.imp λ_ h=>aH h ig.symm) gn⟩
 ·have r':=e _ _ ig rg (k6 _ _ r5)
  exact⟨r',k0 et (G e)⟩
end
section
variable {a b c d e f g h i j k l:Int}{m n p q r s t u v w x y:Nat}
theorem Y9:m<(100000:Nat)->(n+p)=m->n<(1000000:Nat):=Z.R 0x100105ec3283d07da40028aa90011c387583d07da00007 [] [m,n,p]
end
section
section
variable {C:Cx}{H B:MH}{K Q:SK}
section
variable {r rr:Nat}{n z low high:Int}{o2 o3:Option V}{p:Int×Int}
end
section
variable {r rr:Nat}{n z:Int}{total:List (Int×Int)}
end
end
section
variable {C:Cx}{H B:MH}{K Q:SK}
section
variable {rw rg r1 r2 rm:Nat}{place:Int}{u1 u2 u3 u4 u5:Option V}{o:Op}{one two:List Int}
end
end
section
variable {C:Cx}{H B:MH}{Q:EK}
section
variable {rw rg r1 r2:Nat}{place:Int}{g:List Op}{one two w:List Int}{i j x y:Int}
end
end
section
variable {C:Cx}{H B:MH}{a b:List Int}
def nv(k:Nat):V:=.int (k:Nat)
theorem rng1_i{n:Int}{Q:EK}(q:Q (.rng 0 n 1) H):cY [.int n] H Q:=kch (B:=Q (.rng 0 n 1) H) ⋯ q
theorem at_k{r:Nat}{vs:List V}{v:V}{k:Nat}{Q:EK}(h:H[r]? =some (.list vs))(hv:vs[k]? =some v)(hl:vs.length<100000)(q:Q v H):Lp (aR (.ref r) (nv k) H) Q:=by
 have kl:=(List.getElem?_eq_some_iff.mp hv).1
 exact Lp.mk (pO h ⟨A264,A265 hl kl⟩ (f6 (natCast_nonneg k) (A266 kl)) (by rw[toNat_natCast];exact hv)) q
end
section
variable {C:Cx}{H B:MH}{K Q:SK}{lo:Lo}
theorem xC{x:Str}{v:V}:upd lo x v x=some v:=if_pos rfl
def Evv(f:EF)(lo:Lo)(H:MH)(v:V):Prop:=∀ Q:EK,Q v H->f lo H Q
theorem Evv.bin{g:OpF}{f1 f2:EF}{v1 v2 w:V}(h1:Evv f1 lo H v1)(h2:Evv f2 lo H v2)(ho:g v1 v2 H=some (w,H)):Evv (aB g f1 f2) lo H w:=λQ q=>bB (h1 _ (h2 _ (Lp.mk ho q)))
theorem Evv.n{x:Str}{v:V}(h:lo x=some v):Evv (eN x) lo H v:=λQ q=>aU h q
theorem Evv.k{v:V}:Evv (eK v) lo H v:=λQ q=>q
theorem div_e{x y:Int}(h:0<y/\y<1000000000):yX (.int x) (.int y) H=some (.int (x/y),H):=if_pos (decide_eq_true h)
theorem zD{x y:Int}(h:0<y):l0 (.int x) (.int y) H=some (.int (x%y),H):=if_pos (decide_eq_true h)
theorem kZ{x y:Int}:aI (.int x) (.int y) H=some (.int (x+y),H):=rfl
section
variable {ra rb:Nat}{a b:List Int}
end
end
section
variable {C:Cx}{H B:MH}{K Q:SK}{lo:Lo}
theorem ne_i{x y:V}{P:Bool->MH->Prop}(h:eqv H x y=some true)(q:P false H):Lp (bG not x y H) λv H1=>Lf (tr v H1) λb=>P b H1:=Lp.mk (v:=.bool false) (H:=H) (by unfold bG;rw[h];rfl) (Lf.mk (p:=false) rfl q)
theorem ret_no{f1 f2:EF}(h:f1 lo H λa H1=>f2 lo H1 λb H2=>Lp (bG not a b H2) λv H3=>Lf (tr v H3) λb=>bif b then(aA (f7 (eK (.bool false))) (sK .next)) lo H3 K else K .next lo H3):sIf (tE (aB (bG not) f1 f2)) (aA (f7 (eK (.bool false))) (sK .next)) (sK .next) lo H K:=h
theorem no_i{x y:V}{R S:MH->Prop}(h:eqv H x y=some true)(q:S H):Lp (bG not x y H) λv H3=>Lf (tr v H3) λb=>bif b then R H3 else S H3:=ne_i (P:=λb H3=>bif b then R H3 else S H3) h (bR q)
theorem zU{x:Str}{r:Nat}{vs:List V}{Q:EK}(hx:lo x=some (.ref r))(h:lst H (.ref r)=some vs)(hl:vs.length<100000)(q:Q (.int vs.length) H):aM d5 (esC (eN x) esN) lo H Q:=aU hx (lenM_i h (lt_trans hl (by decide)) q)
end
section
variable {C:Cx}{H B:MH}{K Q:SK}{lo:Lo}
theorem oW{Q:EK}(q:Q (.int (-1)) H):i8 (eK (.int 1)) lo H Q:=q
section
variable {rg rc rr ra rb:Nat}{ps:List (Nat×List Op)}{l:List Op}{a b:List Int}{n:Int}
end
end
section
variable {C:Cx}{H B:MH}{K Q:SK}{lo:Lo}
theorem rB{α:Type}{K:ItK C}{tgt:AF}{t:TF}{bf:BF}{ai:Nat}{Q:LK}(f:α->V)(Inv:List α->Lo->MH->Prop)(hx:∀ {l lo H},Inv l lo H->Hx B H)(he:∀ {lo H},Inv [] lo H->Q lo H)(hs:∀ {x l lo H P},Inv (x::l) lo H->(∀ {lo' H'},Inv l lo' H'->P lo' H')->turnC tgt t (bf ai) (f x) lo H P):∀ (l:List α){it:K.σ}{lo:Lo}{H:MH},Its K B it (l.map f)->Inv l lo H->rC K tgt t (bf ai) (l.length+1) it lo H Q
 | [],it,lo,H,hi,i=>by
  cases hi with
  |nil h=>exact h (hx i) (he i)
 |x::l,it,lo,H,hi,i=>by
  cases hi with
  |cons h ht=>exact h (hx i) (hs i λi'=>rB f Inv hx he hs l ht i')
end
section
variable {C:Cx}{H B:MH}{K Q:SK}{lo:Lo}
def dG(p:Nat×List Op):PyData:=.list (p.2.map dO)
theorem dG_ok(p:Nat×List Op):(dG p).canLay0=true/\(dG p).depth<=9:=by
 have h:=uL dO (m:=8) p.2 λo _=>⟨(dO_ok o).1,(by decide:1<=8)⟩
 exact⟨h.1,succ_le_succ h.2⟩
end
section
variable {C:Cx}{H B:MH}{K Q:SK}{lo:Lo}
theorem Lo.ne{x y:Str}{v:V}(h:y≠x):upd lo x v y=lo y:=if_neg h
section
variable {D:LD}{rl rw k:Nat}{ks:List Nat}{fs:List Bool}{w:List Int}
end
end
section
variable {C:Cx}{H B:MH}{K Q:SK}{lo:Lo}
section
variable {D:LD}{rl rw k:Nat}{ks:List Nat}{fs:List Bool}
theorem aP{g:SF}(h:g lo H K):bE g K .next lo H:=h
end
end
section
variable {C:Cx}{H:MH}{lo:Lo}
def Fs(l:List (Str×V))(lo:Lo):Prop:=∀ x v,l.lookup x=some v->lo x=some v
theorem Fs.cons{l:List (Str×V)}(h:Fs l lo)(x:Str)(v:V):Fs ((x,v)::l) (upd lo x v):=λy w e=>by
 rw[List.lookup]at e
 by_cases q:y=x
 ·subst q
  rw[beq_self_eq_true]at e
  exact xC.trans e
 ·rw[show (y==x)=false by simpa using q]at e
  exact(Lo.ne q).trans (h y w e)
end
section
variable {C:Cx}{H B:MH}{K Q:SK}{lo:Lo}
def rv{β:Type}(p:Nat×β):V:=.ref p.1
def HB{β:Type}(ob:β->List V)(H:MH)(ps:List (Nat×β)):Prop:=∀ p∈ps,H[p.1]? =some (.list (ob p.2))
inductive NIv{α β:Type}(ob:β->List V)(c:α->β)(I:Lo->Prop)(B:MH)(ai:Nat)(l:List α)(rest:List α)(lo:Lo)(H:MH):Prop
 |mk {done:List (Nat×β)} (i:I lo) (hx:Hx B H) (h:H[ai]? =some (.list (done.map rv))) (hd:∀ d∈done,H[d.1]? =some (.list (ob d.2))/\d.1≠ai) (t:done.map Prod.snd++rest.map c=l.map c) (hr:∀ x∈rest,x∈l) (hf:∀ d∈done,B[d.1]? =none):NIv ob c I B ai l rest lo H
theorem hd_set{β:Type}{ob:β->List V}{ai r:Nat}{b:β}{H2:MH}{m:MO}{done:List (Nat×β)}(hd:∀ d∈done,H[d.1]? =some (.list (ob d.2))/\d.1≠ai)(x:Hx H H2)(h:H2[r]? =some (.list (ob b)))(n:r≠ai):∀ d∈done++[(r,b)],(H2.set ai m)[d.1]? =some (.list (ob d.2))/\d.1≠ai:=λd hd'=>by
 rcases mem_append.mp hd' with hd' |hd'
 ·have:=hd d hd'
  exact⟨aH (x _ _ this.1) this.2.symm,this.2⟩
 ·rw[mem_singleton.mp hd']
  exact⟨aH h n.symm,n⟩
theorem aB0{α β:Type}{K:ItK C}{hid:List Str}{fi:IF K}{tgt:AF}{t:TF}{E:EF}{Q:EK}{it:K.σ}(ob:β->List V)(f:α->V)(c:α->β)(I:Lo->Prop)(l:List α)(hl:l.length<100000)(hf:∀ {P:K.σ->MH->Prop},P it H->fi lo H P) (hi:Its K H it (l.map f)) (i0:I (hide hid lo))(hs:∀ x∈l,∀ {lo1:Lo}{H1:MH}{P:LK},I lo1->Hx H H1->(∀ {lo' H2 r},I lo'->Hx H1 H2->H2[r]? =some (.list (ob (c x)))->H1[r]? =none->Lf (H2[H.length]?.bind MO.own) λvs=>vs.length<1000000/\P lo' (H2.set H.length (.list (vs++[.ref r]))))->turnC tgt t (kY E H.length) (f x) lo1 H1 P)(k:∀ {H' ps},Hx H H'->H'[H.length]? =some (.list (ps.map rv))->HB ob H' ps->ps.map Prod.snd=l.map c->(∀ p∈ps,H[p.1]? =none)->Q (.ref H.length) H'):mJ K hid fi tgt t (kY E) lo H Q:=by
 refine hf ⟨_,rB (B:=H) (ai:=H.length) (bf:=kY E) f (NIv ob c I H H.length l) (λJ=>?_) (λJ=>?_) (λ{x l' lo1 H1 P} J kk=>?_) l hi (.mk (done:=[]) i0 (.app _ _) (bU _ _) (λ_ h=>absurd h not_mem_nil) rfl (λx hx=>hx) λ_ h=>absurd h not_mem_nil)⟩
 ·cases J with
  |mk i hx h hd t hr hf=>exact hx
 ·cases J with
  |mk i hx h hd t hr hf=>exact k hx h (λd hd'=>(hd d hd').1) (by rw[<-t];exact(append_nil _).symm) hf
 ·cases J with
  | @mk done i hx h hd t hr hf=>
   refine hs x (hr x mem_cons_self) i hx λ{lo' H2 r} i' x2 h2 fr=>Lf.mk (f8 (x2 _ _ h)) ⟨?_,?_⟩
   ·rw[length_map]
    have:=congrArg List.length t
    rw[length_append,length_map,length_map,length_map]at this
    exact Y9 hl this
   ·have n:r≠H.length:=λq=>aG ((q▸fr).symm.trans h)
    refine kk (.mk (done:=done++[(r,c x)]) i' ((hx.trans x2).set (aQ H)) ?_ (hd_set hd x2 h2 n) ?_ (λq hq=>hr q (mem_cons_of_mem _ hq)) λd hd'=>(mem_append.mp hd').elim (hf d) λhd'=>by rw[mem_singleton.mp hd'];exact hx.no fr)
    ·rw[map_append];exact aJ (x2 _ _ h) _
    ·rw[map_append,append_assoc];exact t
def off(l:List (Str×V))(hid:List Str):Bool:=l.all λp=> !hid.contains p.1
theorem Fs.hide{l:List (Str×V)}(F:Fs l lo){hid:List Str}(h:off l hid=true):Fs l (hide hid lo):=λx v e=>by
 have:=all_eq_true.mp h _ (mem_of_lookup e)
 show(if hid.contains x then none else lo x)=_
 cases c:hid.contains x with
 |true=>rw[show hid.contains (x,v).1=true from c]at this;cases this
 |false=>exact F x v e
theorem Fs.re{l:List (Str×V)}(F:Fs l lo)(m:List (Str×V))(h:m.map (λp=>l.lookup p.1)=m.map λp=>some p.2):Fs m lo:=λx v e=>F x v (List.map_inj_left.mp h _ (mem_of_lookup e))
theorem iR1_i{z:Int}{E:EF}{P:Int×Nat×Int->MH->Prop}(b: -1000000<z/\z<1000000)(he:Evv E lo H (.int z))(q:P (0,z.toNat,1) H):iR (aM cY (esC E esN)) lo H P:=by
 refine he _ (bW (rng1_i (Lf.mk (p:=(0,z,1)) rfl ⟨?_,?_⟩)))
 ·unfold rOk
  rw[decide_eq_true b.1,decide_eq_true b.2];rfl
 ·show P (0,(z-0).toNat,1) H
  rw[Int.sub_zero];exact q
theorem lenN_e{x:Str}{r:Nat}{vs:List V}(hx:lo x=some (.ref r))(h:lst H (.ref r)=some vs)(hl:vs.length<100000):Evv (aM d5 (esC (eN x) esN)) lo H (.int vs.length):=λQ q=>zU hx h hl q
theorem sub_e{x y:Int}:cE (.int x) (.int y) H=some (.int (x-y),H):=rfl
end
section
variable {C:Cx}{H B:MH}{K Q:SK}{lo:Lo}
def appK(r:Nat)(lo:Lo)(K:SK):EK:=λv H2=>Lf (H2[r]?.bind MO.own) λvs=>vs.length<1000000/\K .next lo (H2.set r (.list (vs++[v])))
theorem kC{x:Str}{g:EF}{r:Nat}{vs:List V}(hx:lo x=some (.ref r))(h:H[r]? =some (.list vs))(q:g lo H (appK r lo K)):aS (bZ (eN x) g) lo H K:=kch (B:=Lf (lo x) λv=>Lf v.rf λi=>(∃ vs,H[i]? =some (.list vs))/\g lo H (appK i lo K)) ⋯ (Lf.mk hx (Lf.mk rfl ⟨⟨_,h⟩,q⟩))
theorem kD{r:Nat}{vs:List V}{v:V}(h:H[r]? =some (.list vs))(hl:vs.length<1000000)(q:K .next lo (H.set r (.list (vs++[v])))):appK r lo K v H:=Lf.mk (f8 h) ⟨hl,q⟩
section
variable {rm rg rp r1 r2:Nat}{one two:List Int}
end
end
section
variable {C:Cx}{H B:MH}{K Q:SK}{lo:Lo}
section
variable {rc rn z:Nat}{n w:Int}
theorem rng2_i{a b:Int}{Q:EK}(q:Q (.rng a b 1) H):cY [.int a,.int b] H Q:=kch (B:=Q (.rng a b 1) H) ⋯ q
theorem uR{x y:Int}{Q:EK}(q:Q (.int (min x y)) H):jC [.int x,.int y] H Q:=kch (B:=Q (.int (min x y)) H) ⋯ q
end
end
section
variable {C:Cx}{H B:MH}{K Q:SK}{lo:Lo}
theorem lF{names:List Str}{f:EF}(h:f lo H λv H1=>Lf v.tp λvs=>vs.length=names.length/\Lf (upds names.reverse vs.reverse lo) λlo'=>K .next lo' H1):cM names f lo H K:=h
theorem aBt{f:EF}{Q:EK}(h:f lo H λv H1=>Lp (mkL [v] H1) Q):d9 (esC f esN) lo H Q:=h
theorem s9{v:V}{Q:EK}(q:Q (.ref H.length) (H++[.list [v]])):Lp (mkL [v] H) Q:=Lp.mk (v:=.ref H.length) (H:=H++[.list [v]]) (by show(if [v].length<1000000 then _ else none)=_;exact if_pos (show 1<1000000 by decide)) q
section
variable {rs rr rg:Nat}{n:Int}
theorem vH{x y:Int}:bG id (.int x) (.int y) H=some (.bool (decide (x=y)),H):=by rfl'
end
end
section
section
variable {F S:List Int}{X:Nat->Int}
end
section
variable {C:Cx}{H B:MH}{K Q:SK}{lo:Lo}
end
end
section
variable {C:Cx}{H B:MH}{K Q:SK}{lo:Lo}
section
variable {p r1 r2 rsh rn ra:Nat}{nn n0 x:Int}{F acc1 acc2:List Int}{accs:List (Int×Int×Bool)}
end
end
section
variable {C:Cx}{H B:MH}{K Q:SK}{lo:Lo}
theorem mT{f:EF}{P:Bool->MH->Prop}(h:f lo H λv H1=>Lf (tr v H1) λb=>P b H1):tE f lo H P:=h
section
variable {rs rr rg:Nat}{n:Int}
end
end
end
section
variable {C:Cx}{H B:MH}{K Q:SK}{lo:Lo}
theorem aDo{x a b:Int}{Q:EK}(k:∀ t,Q (.bool t) H):Lp (oIn not (.int x) (.tup [.int a,.int b]) H) Q:=Lp.mk (v:=.bool (!([PyData.int a,.int b].any λy=>PyData.eqv y (.int x)))) (H:=H) ⋯ (k _)
def wA(a b:Int):TF:=tE (aB (oIn not) (aB l0 (eN "x") (eK (.int 9))) (aW (esC (eK (.int a)) (esC (eK (.int b)) esN))))
def wP(x:Str)(e:EF):SF:=aA (aS (bZ (eN x) e)) (sK .next)
theorem wA_i{a b x:Int}{P:Bool->MH->Prop}(hx:lo "x" =some (.int x))(k:∀ t,P t H):wA a b lo H P:=mT (bB (bB (aU hx (eI (Lp.mk (zD (by decide)) (d8 (aL (eI (aL (eI (bW ⟨(show 2<100 by decide),aDo λt=>Lf.mk (p:=t) rfl (k t)⟩)))))))))))
def wLs:SF:=(aA (aZ "item" (aB l0 (aB yX (eN "x") (eK (.int 9))) (eK (.int 5)))) (aA (sIf (wA 1 8) (wP "first" (eN "item")) (sK .next)) (aA (sIf (tE (aB (bG id) (aB l0 (eN "x") (eK (.int 9))) (eK (.int 2)))) (wP "second" (aB aI (eN "item") (eK (.int 1)))) (aA (sIf (wA 0 8) (wP "second" (eN "item")) (sK .next)) (sK .next))) (sK .next))))
section
variable {r1 r2 rn N:Nat}{O P:List Int}{x y:Int}
def aF(r1 r2 rn:Nat):List (Str×V):=[("first",.ref r1),("second",.ref r2),("numbers",.ref rn)]
inductive L1(B:MH)(r1 r2 rn N:Nat)(rest:List V)(lo:Lo)(H:MH):Prop
 |mk {rs O P:List Int} (er:rest=rs.map V.int) (F:Fs (aF r1 r2 rn) lo) (hx:Hx B H) (h1:H[r1]? =some (.list (O.map V.int))) (h2:H[r2]? =some (.list (P.map V.int))) (l1:O.length+rs.length<=N) (l2:P.length+rs.length<=N):L1 B r1 r2 rn N rest lo H
theorem wP_i{z:Str}{e:EF}{r:Nat}{y:Int}{O:List Int}(hz:lo z=some (.ref r))(h:H[r]? =some (.list (O.map V.int)))(ol:O.length<1000)(he:Evv e lo H (.int y))(k:K .next lo (H.set r (.list ((O++[y]).map V.int)))):wP z e lo H K:=aK (kC hz h (he _ (kD h (by rw[length_map];exact Yc41 ol) (aP (by rw[map_append]at k;exact k)))))
theorem w_step(hb1:B[r1]? =none)(hb2:B[r2]? =none)(ne:r1≠r2)(nl:N<1000){v:V}{rest:List V}(I:L1 B r1 r2 rn N (v::rest) lo H)(go:GoK (L1 B r1 r2 rn N rest) Q K):aN "x" v lo H λlo1 H1=>wLs lo1 H1 K:=by
 cases I with
 | @mk rs O P er F hx h1 h2 l1 l2=>
 cases rs with
 |nil=>cases er
 |cons x rs=>
 cases er
 rw[length_cons]at l1 l2
 have G:=F.cons "x" (.int x)
 show wLs (upd lo "x" (.int x)) H K
 revert G
 generalize upd lo "x" (.int x)=lo1
 intro G
 refine aK (fH (Evv.bin (.bin (.n (v:=.int x) (G _ _ ⋯)) .k (div_e (by decide))) .k (zD (by decide)) _ (aP ?_)))
 have G:=G.cons "item" (.int (x/9%5))
 generalize upd lo1 "item" (.int (x/9%5))=lo2 at G
 have gx:=G "x" (.int x) ⋯
 have gi:=G "item" (.int (x/9%5)) ⋯
 have g1:=G "first" (.ref r1) ⋯
 have g2:=G "second" (.ref r2) ⋯
 have G':Fs (aF r1 r2 rn) lo2:=G.re _ ⋯
 have sec:∀ {H1:MH}{O1:List Int},Hx B H1->H1[r1]? =some (.list (O1.map V.int))->O1.length+rs.length<=N->H1[r2]? =some (.list (P.map V.int))->bE (aA (sIf (tE (aB (bG id) (aB l0 (eN "x") (eK (.int 9))) (eK (.int 2)))) (wP "second" (aB aI (eN "item") (eK (.int 1)))) (aA (sIf (wA 0 8) (wP "second" (eN "item")) (sK .next)) (sK .next))) (sK .next)) K .next lo2 H1:=λ{H1 O1} x1 q1 ol q2=>by
  have fin:∀ {y:Int},K .next lo2 (H1.set r2 (.list ((P++[y]).map V.int))):=λ{y}=>go.nx (.mk rfl G' (x1.set hb2) (aH q1 ne.symm) (aJ q2 _) ol (by rw[length_append,length_singleton];exact Yc39 l2))
  refine aP (aK (nM (mT (bB (bB (aU gx (eI (Lp.mk (zD (by decide)) (eI (Lp.mk vH (Lf.mk (p:=decide (x%9=2)) rfl ?_)))))))))))
  cases decide (x%9=2) with
  |true=>exact bX (wP_i g2 q2 (Yc40 nl l2) (.bin (.n gi) .k kZ) (aP fin))
  |false=>
   refine bR (aK (nM (wA_i gx λt=>?_)))
   cases t with
   |true=>exact bX (wP_i g2 q2 (Yc40 nl l2) (.n gi) (aP (aP fin)))
   |false=>exact bR (aP (aP (go.nx (.mk rfl G' x1 q1 q2 ol (Yc38 l2)))))
 refine aK (nM (wA_i gx λt=>?_))
 cases t with
 |true=>exact bX (wP_i g1 h1 (Yc40 nl l1) (.n gi) (sec (hx.set hb1) (aJ h1 _) (by rw[length_append,length_singleton];exact Yc39 l1) (aH h2 ne)))
 |false=>exact bR (sec hx h1 (Yc38 l1) h2)
theorem zP(X:XX C){ns:List Int}{R:EK}(hn:LI H rn ns)(nl:ns.length<1000)(k:∀ {H' r1 r2}{O P:List Int},Hx H H'->H'[r1]? =some (.list (O.map V.int))->H'[r2]? =some (.list (P.map V.int))->O.length<=ns.length->P.length<=ns.length->R (.tup [.ref r1,.ref r2]) H'):iF X [.ref rn] H R:=by
 refine⟨rfl,?_⟩
 have F:Fs [("numbers",.ref rn)] (loB ["numbers"] [.ref rn] lo0):=Fs.cons (l:=[]) nofun "numbers" (.ref rn)
 show iB X (loB ["numbers"] [.ref rn] lo0) H (j3 R)
 revert F
 generalize loB ["numbers"] [.ref rn] lo0=lo
 intro F
 refine aK (lF (d8 (aL (j4 (aL (j4 (bW ⟨(show 2<100 by decide),Lf.mk (p:=[.ref H.length,.ref (H++[MO.list []]).length]) rfl ⟨rfl,Lf.mk (p:=upd (upd lo "second" (.ref (H++[MO.list []]).length)) "first" (.ref H.length)) ⋯ (aP ?_)⟩⟩)))))))
 have F:=(F.cons "second" (.ref (H++[MO.list []]).length)).cons "first" (.ref H.length)
 have x4:Hx H (H++[MO.list []]++[MO.list []]):=(Hx.app _ _).trans (.app _ _)
 have q1:(H++[MO.list []]++[MO.list []])[H.length]? =some (MO.list []):=(Hx.app _ _) _ _ (bU _ _)
 have q2:=bU (H++[MO.list []]) (MO.list [])
 have f1:=aQ H
 have f2:H[(H++[MO.list []]).length]? =none:=(Hx.app H [MO.list []]).fresh
 have op:H.length≠(H++[MO.list []]).length:=by rw[length_append];exact(succ_ne_self _).symm
 revert F x4 q1 q2 f1 f2 op
 generalize upd (upd lo "second" (.ref (H++[MO.list []]).length)) "first" (.ref H.length)=lo2
 generalize (H++[MO.list []]).length=r2
 generalize H.length=r1
 generalize H++[MO.list []]++[MO.list []]=H4
 intro F x4 q1 q2 f1 f2 op
 refine aK ?_
 show eY (cU C) (iL (eN "numbers")) (aN "x") wLs lo2 H4 _
 refine jY (iL_i (λq=>aU (F _ (.ref rn) ⋯) q) (x4.li hn) ⟨_,fR (vs:=ns.map V.int) (L1 H r1 r2 rn ns.length) (λI=>?_) (λI=>?_) (λI go=>w_step f1 f2 op nl I go) _ 0 rfl (.mk (rs:=ns) (O:=[]) (P:=[]) rfl (F.re _ ⋯) x4 q1 q2 (by simp) (by simp))⟩)
 ·cases I with
  |mk er F hx=>exact hx.li hn
 ·cases I with
  | @mk rs O P er F hx h1 h2 l1 l2=>
   exact aP (aK (jX (d8 (aL (aU (F _ (.ref r1) ⋯) (aL (aU (F _ (.ref r2) ⋯) (bW ⟨(show 2<100 by decide),k hx h1 h2 (Yc37 l1) (Yc37 l2)⟩))))))))
end
end
section
variable {n:Int}{k:Nat->Int}
def cst(n:Int)(k:Nat->Int):Nat->List (Nat×Nat)×Nat
 |0=>([],0)
 |m+1=>bif decide (n+n<k (m+1)) then((cst n k m).1++[((cst n k m).2,m+1)],m+1) else cst n k m
def eG(n:Int)(k:Nat->Int):Nat->List (Nat×Nat)
 |0=>[]
 |m+1=>(cst n k m).1++[((cst n k m).2,m+1)]
theorem mL(m:Nat):cst n k (m+1)=bif decide (n+n<k (m+1)) then(eG n k (m+1),m+1) else cst n k m:=rfl
theorem aEj(m:Nat):(cst n k m).1=eG n k (cst n k m).2:=by
 induction m with
 |zero=>rfl
 |succ m ih=>
  rw[mL]
  cases decide (n+n<k (m+1)) with
  |true=>rfl
  |false=>exact ih
theorem mM(m:Nat):(cst n k m).2<=m:=by
 induction m with
 |zero=>exact le_refl _
 |succ m ih=>
  rw[mL]
  cases decide (n+n<k (m+1)) with
  |true=>exact le_refl _
  |false=>exact le_succ_of_le ih
def sm(k:Nat->Int)(s:Nat):Nat->Int
 |0=>0
 |c+1=>sm k s c+k (s+c)
def pc(n:Int)(k:Nat->Int):Nat->Int
 |0=>0
 |m+1=>pc n k m+(bif decide (n+n<k (m+1)) then n+n else k (m+1))
def itm(n:Int)(k:Nat->Int):Nat->Int
 |0=>0
 |m+1=>min n (k 0)+pc n k m+min n (k (m+1))
def gst(n:Int)(k:Nat->Int)(b m:Nat):Int:=itm n k b+min n (k b)+sm k (b+1) (m-b)
theorem aAr{b m:Nat}(h:b<=m):gst n k b (m+1)=gst n k b m+k (m+1):=by
 unfold gst
 rw[show m+1-b=(m-b)+1 by exact Yc27 h]
 show _+(sm k (b+1) (m-b)+k (b+1+(m-b)))=_
 rw[show b+1+(m-b)=m+1 by exact Yc26 h];exact Yc25
theorem gst_0(m:Nat):gst n k (m+1) (m+1)=min n (k 0)+pc n k m+min n (k (m+1))+min n (k (m+1)):=by
 unfold gst
 rw[sub_self]
 show _+0=_
 rw[add_zero];rfl
theorem aAs(n0:0<=n):∀ m,(∀ t,1<=t->t<=m->0<k t)->gst n k (cst n k m).2 m=min n (k 0)+pc n k m/\ ∀ b,b<=m->b≠(cst n k m).2->min n (k 0)+pc n k m<gst n k b m\/(min n (k 0)+pc n k m=gst n k b m/\(eG n k (m+1)).length<(eG n k b).length+1):=by
 intro m
 induction m with
 |zero=>
  intro hk
  refine⟨?_,λb hb ne=>absurd (Nat.le_zero.mp hb) ne⟩
  show 0+min n (k 0)+0=min n (k 0)+0
  exact Yc24
 |succ m ih=>
  intro hk
  obtain⟨h1,h2⟩:=ih λt t1 t2=>hk t t1 (le_succ_of_le t2)
  have kp:=hk (m+1) (succ_le_succ (zero_le _)) (le_refl _)
  have g0:=gst_0 (n:=n) (k:=k) m
  have ge:∀ b,b<=m->min n (k 0)+pc n k m<=gst n k b m:=λb hb=>by
   by_cases e:b=(cst n k m).2
   ·rw[e,h1];exact Int.le_refl _
   ·rcases h2 b hb e with h |h
    ·exact le_of_lt h
    ·exact le_of_eq h.1
  have pcs:pc n k (m+1)=pc n k m+(bif decide (n+n<k (m+1)) then n+n else k (m+1)):=rfl
  rw[pcs,mL]
  by_cases q:n+n<k (m+1)
  ·rw[decide_eq_true q]
   refine⟨?_,λb hb ne=>.inl ?_⟩
   ·show gst n k (m+1) (m+1)=min n (k 0)+(pc n k m+(n+n))
    rw[g0];exact Yc23 kp q
   ·have bm:b<=m:=by
     have:b≠m+1:=ne
     exact Yc22 hb this
    show min n (k 0)+(pc n k m+(n+n))<_
    rw[aAr bm]
    have:=ge b bm
    exact Yc21 q this
  ·rw[decide_eq_false q]
   have lc:(eG n k (m+1+1)).length=(eG n k (m+1)).length:=by
    show((cst n k (m+1)).1++[((cst n k (m+1)).2,m+1+1)]).length=((cst n k m).1++[((cst n k m).2,m+1)]).length
    rw[length_append,length_append,mL,decide_eq_false q];rfl
   refine⟨?_,λb hb ne=>?_⟩
   ·show gst n k (cst n k m).2 (m+1)=min n (k 0)+(pc n k m+k (m+1))
    rw[aAr (mM m),h1];exact Yc20
   ·show min n (k 0)+(pc n k m+k (m+1))<_\/_
    by_cases bm:b<=m
    ·rw[aAr bm,lc]
     rcases h2 b bm ne with h |h
     ·exact .inl (Yc19 h)
     ·exact .inr ⟨by show min n (k 0)+(pc n k m+k (m+1))=_;exact Yc18 h,h.2⟩
    ·have:b=m+1:=by exact Yc17 hb bm
     subst this
     rw[g0,lc]
     by_cases z:k (m+1)<n+n
     ·exact .inl (Yc16 kp z)
     ·exact .inr ⟨by show min n (k 0)+(pc n k m+k (m+1))=_;exact Yc15 kp q z,lt_succ_self _⟩
theorem sm_eq(ks:List Int)(s:Nat):∀ c,s+c<=ks.length->((ks.drop s).take c).sum=sm (λt=>ks.getD t 0) s c:=by
 intro c
 induction c with
 |zero=>intro _;rfl
 |succ c ih=>
  intro h
  have hl:s+c<ks.length:=by exact Yc14 h
  have e:(ks.drop s)[c]? =some ks[s+c]:=by rw[List.getElem?_drop,getElem?_eq_getElem hl]
  show _=sm _ s c+ks.getD (s+c) 0
  rw[List.take_add_one,e,List.sum_append,ih (Yc13 hl),getD_eq_getElem?_getD,getElem?_eq_getElem hl]
  simp
end
section
structure Cg where
 i:Int
 i2:Int
 j:Int
 j2:Int
def Cg.op(c:Cg):Op:=⟨if c.i=c.i2 then .ins else if c.j=c.j2 then .del else .rep,c.i,c.i2,c.j,c.j2⟩
theorem Cg.ne(c:Cg):c.op.tag.isEq=false:=by
 unfold Cg.op
 show(if c.i=c.i2 then Tg.ins else if c.j=c.j2 then .del else .rep).isEq=false
 split
 ·rfl
 ·split<;>rfl
def pts(i j k:Int):List T3->Int×List (Cg×Int)
 | []=>(k,[])
 |t::l=>if i<t.i\/j<t.j then(k,(⟨i,t.i,j,t.j⟩,(pts (t.i+t.k) (t.j+t.k) t.k l).1)::(pts (t.i+t.k) (t.j+t.k) t.k l).2) else pts (t.i+t.k) (t.j+t.k) (k+t.k) l
def eq0(i j k:Int):List Op:=if k=0 then [] else [eqO i j k]
def eV:List (Cg×Int)->List Op
 | []=>[]
 | (c,k)::l=>c.op::(eq0 c.i2 c.j2 k++eV l)
inductive LC:Int->Int->List (Cg×Int)->Prop
 |nil {i j:Int}:LC i j []
 |cons {c:Cg}{k:Int}{l:List (Cg×Int)} (hi:c.i<=c.i2) (hj:c.j<=c.j2) (st:c.i<c.i2\/c.j<c.j2) (k0:0<=k) (kp:l≠ []->0<k) (h:LC (c.i2+k) (c.j2+k) l):LC c.i c.j ((c,k)::l)
theorem tI{i j i' j':Int}(hi:i<=i')(hj:j<=j')(st:i<i'\/j<j'):gap i j i' j'= [(Cg.mk i i' j j').op]:=by
 unfold gap Cg.op
 by_cases h1:i<i'
 ·rw[if_pos h1,if_neg (Int.ne_of_lt h1)]
  by_cases h2:j<j'
  ·rw[if_pos h2,if_neg (Int.ne_of_lt h2)]
  ·rw[if_neg h2,if_pos (le_antisymm hj (not_lt.mp h2))]
 ·rw[if_neg h1,if_pos (le_antisymm hi (not_lt.mp h1)),if_pos (st.resolve_left h1)]
theorem aA1{i j:Int}{t:T3}(hi:i<=t.i)(hj:j<=t.j)(st: ¬(i<t.i\/j<t.j)):t.i=i/\t.j=j/\gap i j t.i t.j= []:=by
 have h1:t.i=i:=le_antisymm (not_lt.mp λh=>st (.inl h)) hi
 have h2:t.j=j:=le_antisymm (not_lt.mp λh=>st (.inr h)) hj
 refine⟨h1,h2,?_⟩
 unfold gap
 rw[h1,h2,if_neg (lt_irrefl _),if_neg (lt_irrefl _)]
theorem oP{i j k:Int}{t:T3}{l:List T3}(st: ¬(i<t.i\/j<t.j)):pts i j k (t::l)=pts (t.i+t.k) (t.j+t.k) (k+t.k) l:=by
 show(if _ then _ else _)=_
 rw[if_neg st]
theorem jF{i j k:Int}{t:T3}{l:List T3}(st:i<t.i\/j<t.j):pts i j k (t::l)=(k,(⟨i,t.i,j,t.j⟩,(pts (t.i+t.k) (t.j+t.k) t.k l).1)::(pts (t.i+t.k) (t.j+t.k) t.k l).2):=by
 show(if _ then _ else _)=_
 rw[if_pos st]
theorem uG{i j k ae be:Int}(hi:i<=ae)(hj:j<=be):(pts i j k [⟨ae,be,0⟩]).1=k/\ops i j [⟨ae,be,0⟩]=eV (pts i j k [⟨ae,be,0⟩]).2/\LC i j (pts i j k [⟨ae,be,0⟩]).2/\(pts i j k [⟨ae,be,0⟩]).2.length<=1:=by
 by_cases st:i<ae\/j<be
 ·rw[jF (t:=⟨ae,be,0⟩) st,kK,tI hi hj st]
  refine⟨rfl,?_,.cons (c:=⟨i,ae,j,be⟩) hi hj st (Int.le_refl _) (λh=>absurd rfl h) .nil,le_refl _⟩
  show [_]++((if (0:Int)=0 then [] else _)++[])=_::(eq0 ae be 0++[])
  unfold eq0
  rw[if_pos rfl,if_pos rfl];rfl
 ·rw[oP (t:=⟨ae,be,0⟩) st,kK,(aA1 (t:=⟨ae,be,0⟩) hi hj st).2.2]
  refine⟨add_zero _,?_,.nil,zero_le _⟩
  show []++((if (0:Int)=0 then [] else _)++[])= []
  rw[if_pos rfl];rfl
theorem yQ{a b:List Int}:∀ {q:List T3}{i j k:Int},NA a b true i j q->i<=a.length->j<=b.length->(pts i j k (q++[⟨a.length,b.length,0⟩])).1=k/\ops i j (q++[⟨a.length,b.length,0⟩])=eV (pts i j k (q++[⟨a.length,b.length,0⟩])).2/\LC i j (pts i j k (q++[⟨a.length,b.length,0⟩])).2/\(pts i j k (q++[⟨a.length,b.length,0⟩])).2.length<=q.length+1
 | [],i,j,k,_,hi,hj=>uG hi hj
 |t::q,i,j,k,.cons h1 h2 st B h,hi,hj=>by
  have s:=st rfl
  have i1:=B.n.i1
  have j1:=B.n.j1
  obtain⟨e1,e2,e3,e4⟩:=yQ (k:=t.k) h i1 j1
  rw[cons_append,jF s,kK,tI h1 h2 s,if_neg B.nz,e2,e1]
  refine⟨rfl,?_,.cons (c:=⟨i,t.i,j,t.j⟩) h1 h2 s (le_of_lt B.p) (λ_=>B.p) e3,succ_le_succ e4⟩
  show [_]++([_]++_)=_::(eq0 t.i t.j t.k++_)
  unfold eq0
  rw[if_neg B.nz];rfl
theorem pts_0{a b:List Int}{bl:List T3}(h:Blocks a b bl):∃ k0 L,pts 0 0 0 bl=(k0,L)/\0<=k0/\ops 0 0 bl=eq0 0 0 k0++eV L/\LC k0 k0 L/\L.length<=bl.length:=by
 obtain⟨r,h1,rfl⟩:=h
 have na:=zC h1.sorted.2
 revert na
 generalize nad ⟨0,0,0⟩ (isort T3.i r)=q
 intro na
 cases na with
 |nil=>
  obtain⟨e1,e2,e3,e4⟩:=uG (i:=0) (j:=0) (k:=0) (natCast_nonneg a.length) (natCast_nonneg b.length)
  show ∃ k0 L,pts 0 0 0 [⟨a.length,b.length,0⟩]=(k0,L)/\0<=k0/\ops 0 0 [⟨a.length,b.length,0⟩]=eq0 0 0 k0++eV L/\LC k0 k0 L/\L.length<=1
  rw[e2]
  revert e1 e3 e4
  generalize pts 0 0 0 [⟨(a.length:Int),(b.length:Int),0⟩]=z
  intro e1 e3 e4
  obtain⟨k0,L⟩:=z
  replace e1:k0=0:=e1
  subst e1
  exact⟨0,L,rfl,Int.le_refl _,by unfold eq0;rw[if_pos rfl];rfl,e3,e4⟩
 | @cons _ _ _ t q h1 h2 st B h=>
  have i1:=B.n.i1
  have j1:=B.n.j1
  obtain⟨e1,e2,e3,e4⟩:=yQ (k:=t.k) h i1 j1
  by_cases s:0<t.i\/0<t.j
  ·rw[cons_append,jF s,kK,tI h1 h2 s,if_neg B.nz,e2,e1]
   refine⟨_,_,rfl,Int.le_refl _,?_,.cons (c:=⟨0,t.i,0,t.j⟩) h1 h2 s (le_of_lt B.p) (λ_=>B.p) e3,succ_le_succ (by rw[length_append];exact e4)⟩
   show [_]++([_]++_)=eq0 0 0 0++(_::(eq0 t.i t.j t.k++_))
   unfold eq0
   rw[if_neg B.nz,if_pos rfl];rfl
  ·obtain⟨z1,z2,z3⟩:=aA1 h1 h2 s
   rw[cons_append,oP s,kK,z3,if_neg B.nz,z1,z2,zero_add]
   rw[z1,z2,zero_add]at e1 e2 e3 e4
   refine⟨_,_,rfl,by rw[e1];exact le_of_lt B.p,?_,by rw[e1];exact e3,Nat.le_trans e4 (by rw[length_cons,length_append];exact le_succ _)⟩
   rw[e1,e2]
   unfold eq0 eqO
   rw[if_neg B.nz,zero_add];rfl
end
section
def ksL(k0:Int)(L:List (Cg×Int)):List Int:=k0::L.map Prod.snd
def kf(k0:Int)(L:List (Cg×Int))(t:Nat):Int:=(ksL k0 L).getD t 0
def cf(L:List (Cg×Int))(t:Nat):Cg:=(L.getD t (⟨0,0,0,0⟩,0)).1
section
variable {n:Int}{k:Nat->Int}{c:Nat->Cg}
def preq(n:Int)(k:Nat->Int)(c:Nat->Cg)(b t:Nat):List Op:=if 0<k t then [⟨.eq,(c t).i-(if b<t then k t else min n (k t)),(c t).i,(c t).j-(if b<t then k t else min n (k t)),(c t).j⟩] else []
def opn(n:Int)(k:Nat->Int)(c:Nat->Cg)(b:Nat):Nat->List Op
 |0=>[]
 |m+1=>opn n k c b m++(preq n k c b (b+m)++[(c (b+m)).op])
def shw(n:Int)(k:Nat->Int)(c:Nat->Cg)(b e:Nat):List Op:=opn n k c b (e-b)++(if 0<k e then [⟨.eq,(c (e-1)).i2,(c (e-1)).i2+min n (k e),(c (e-1)).j2,(c (e-1)).j2+min n (k e)⟩] else [])
def grR(n:Int)(k:Nat->Int)(b t:Nat):Nat->List (Nat×Nat)
 |0=>[(b,t)]
 |s+1=>bif decide (n+n<k t) then(b,t)::grR n k t (t+1) s else grR n k b (t+1) s
theorem aD5:∀ (s j:Nat),(cst n k j).1++grR n k (cst n k j).2 (j+1) s=eG n k (j+1+s):=by
 intro s
 induction s with
 |zero=>intro j;rfl
 |succ s ih=>
  intro j
  have:=ih (j+1)
  rw[mL]at this
  rw[show j+1+(s+1)=j+1+1+s by exact Yc35,<-this]
  show _++(bif decide (n+n<k (j+1)) then _ else _)=_
  cases decide (n+n<k (j+1)) with
  |true=>show _=((cst n k j).1++[((cst n k j).2,j+1)])++_;rw[append_assoc];rfl
  |false=>rfl
end
structure LCi(i j:Int)(c:Cg)(κ:Int)(l:List (Cg×Int)):Prop where
 ei:c.i=i
 ej:c.j=j
 h1:c.i<=c.i2
 h2:c.j<=c.j2
 y0:0<=κ
 yp:l≠ []->0<κ
 h:LC (c.i2+κ) (c.j2+κ) l
theorem LC.inv{i j:Int}{c:Cg}{κ:Int}{l:List (Cg×Int)}(h:LC i j ((c,κ)::l)):LCi i j c κ l:=by
 generalize e:(c,κ)::l=M at h
 cases h with
 |nil=>cases e
 |cons h1 h2 st k0 kp h=>cases e;exact⟨rfl,rfl,h1,h2,k0,kp,h⟩
theorem vR{L P S:List (Cg×Int)}{x:Cg×Int}(e:L=P++x::S):cf L P.length=x.1:=by
 unfold cf
 rw[e,getD_eq_getElem?_getD,getElem?_append_right (le_refl _),sub_self];rfl
theorem kf_at{L P S:List (Cg×Int)}{x:Cg×Int}{k0:Int}(e:L=P++x::S):kf k0 L (P.length+1)=x.2:=by
 unfold kf ksL
 rw[e,List.getD_cons_succ,map_append,getD_eq_getElem?_getD,getElem?_append_right (by rw[length_map];exact le_refl _),length_map,sub_self];rfl
theorem xP{n i j κ:Int}(n0:0<=n)(k0:0<=κ):(eqO i j κ).tl n=⟨.eq,i+κ-min n κ,i+κ,j+κ-min n κ,j+κ⟩:=by
 show Op.mk .eq (max i (i+κ-n)) (i+κ) (max j (j+κ-n)) (j+κ)=_
 rw[show max i (i+κ-n)=i+κ-min n κ by exact Yc34,show max j (j+κ-n)=j+κ-min n κ by exact Yc34]
theorem aAn{n i j κ:Int}:(eqO i j κ).hd n=⟨.eq,i,i+min n κ,j,j+min n κ⟩:=by
 show Op.mk .eq i (min (i+κ) (i+n)) j (min (j+κ) (j+n))=_
 rw[show min (i+κ) (i+n)=i+min n κ by exact Yc33,show min (j+κ) (j+n)=j+min n κ by exact Yc33]
theorem grp_go{n:Int}(n0:0<=n){k0:Int}{L:List (Cg×Int)}:∀ {S P:List (Cg×Int)}{x:Cg×Int}{b:Nat}{cur:List Op},L=P++x::S->b<=P.length->cur=opn n (kf k0 L) (cf L) b (P.length+1-b)->LC (x.1.i2+x.2) (x.1.j2+x.2) S->0<=x.2->(S≠ []->0<x.2)->iQ cur=true-> grps n cur (fI n (eq0 x.1.i2 x.1.j2 x.2++eV S))=(grR n (kf k0 L) b (P.length+1) S.length).map λp=>shw n (kf k0 L) (cf L) p.1 p.2:=by
 intro S
 induction S with
 |nil=>
  intro P x b cur e hb hc lc x0 xp lb
  have ek:=kf_at (k0:=k0) e
  have ec:=vR e
  have es:shw n (kf k0 L) (cf L) b (P.length+1)=cur++(if 0<x.2 then [(eqO x.1.i2 x.1.j2 x.2).hd n] else []):=by
   unfold shw
   rw[<-hc,ek,add_sub_cancel,ec,aAn]
  show grps n cur (fI n (eq0 x.1.i2 x.1.j2 x.2++[]))= [shw n (kf k0 L) (cf L) b (P.length+1)]
  rw[append_nil,es]
  unfold eq0
  by_cases z:x.2=0
  ·rw[if_pos z,if_neg (Yc29 z),append_nil]
   show(bif iQ cur then [cur] else [])=_
   rw[lb];rfl
  ·rw[if_neg z,if_pos (Yc28 x0 z)]
   show grps n cur [(eqO x.1.i2 x.1.j2 x.2).hd n]=_
   rw[hY,tZ n0]
   show(bif iQ (cur++[(eqO x.1.i2 x.1.j2 x.2).hd n]) then _ else _)=_
   rw[tD lb];rfl
 |cons y S ih=>
  intro P x b cur e hb hc lc x0 xp lb
  have ek:=kf_at (k0:=k0) e
  have e2:L=(P++[x])++y::S:=by rw[e,append_assoc];rfl
  have ey:=vR e2
  rw[length_append,length_singleton]at ey
  have xq:=xp (List.cons_ne_nil _ _)
  clear xp
  have ll:(P++[x]).length=P.length+1:=by rw[length_append];rfl
  obtain⟨c,κ⟩:=y
  obtain⟨hi,hj,h1,h2,y0,yp,lc⟩:=lc.inv
  have cn:=c.ne
  have ih':=λ{b':Nat}{cur':List Op}=>ih (P:=P++[x]) (x:=(c,κ)) (b:=b') (cur:=cur') e2
  rw[ll]at ih'
  show grps n cur (fI n (eq0 x.1.i2 x.1.j2 x.2++c.op::(eq0 c.i2 c.j2 κ++eV S)))=(bif decide (n+n<kf k0 L (P.length+1)) then _ else _:List (Nat×Nat)).map _
  unfold eq0
  rw[if_neg (Int.ne_of_gt xq)]
  show grps n cur (eqO x.1.i2 x.1.j2 x.2::fI n (c.op::(eq0 c.i2 c.j2 κ++eV S)))=_
  rw[hY,big_eq,pX cn,lH cn,lH cn,ek]
  by_cases q:n+n<x.2
  ·rw[decide_eq_true q,cond_true,cond_true,map_cons]
   congr 1
   ·unfold shw
    rw[<-hc,ek,if_pos xq,add_sub_cancel,vR e,aAn]
   ·refine ih' (le_refl _) ?_ lc y0 yp rfl
    rw[Nat.add_sub_cancel_left]
    show _= []++(preq n (kf k0 L) (cf L) (P.length+1) (P.length+1+0)++[(cf L (P.length+1+0)).op])
    unfold preq
    rw[Nat.add_zero,ek,ey,if_pos xq,if_neg (Nat.lt_irrefl _),xP n0 x0,<-hi,<-hj];rfl
  ·rw[decide_eq_false q,cond_false,cond_false,append_assoc]
   refine ih' (le_succ_of_le hb) ?_ lc y0 yp (aD0 _ _ _ _)
   rw[show P.length+1+1-b=(P.length+1-b)+1 by exact Yc32 hb]
   show _=opn n (kf k0 L) (cf L) b (P.length+1-b)++(preq n (kf k0 L) (cf L) b (b+(P.length+1-b))++[(cf L (b+(P.length+1-b))).op])
   rw[<-hc,show b+(P.length+1-b)=P.length+1 by exact Yc31 hb]
   unfold preq eqO
   rw[ek,ey,if_pos xq,if_pos (Nat.lt_succ_of_le hb)]
   show _=cur++([Op.mk .eq (c.i-x.2) c.i (c.j-x.2) c.j]++[c.op])
   rw[hi,hj,show x.1.i2+x.2-x.2=x.1.i2 by exact Yc30,show x.1.j2+x.2-x.2=x.1.j2 by exact Yc30]
theorem u6{n:Int}(n0:0<=n){k0:Int}{L:List (Cg×Int)}(h0:0<=k0)(lc:LC k0 k0 L):groups n (eq0 0 0 k0++eV L)=(eG n (kf k0 L) L.length).map λp=>shw n (kf k0 L) (cf L) p.1 p.2:=by
 cases L with
 |nil=>
  show groups n (eq0 0 0 k0++[])= []
  rw[append_nil]
  unfold eq0
  split
  ·show grps n [] [((eqO 0 0 1).tl n).hd n]= []
   rw[hY,tZ n0];rfl
  ·show grps n [] [((eqO 0 0 k0).tl n).hd n]= []
   rw[hY,tZ n0];rfl
 |cons x S=>
  obtain⟨c,κ⟩:=x
  have e:∀ M:List (Cg×Int),(c,κ)::S=M->M= []++(c,κ)::S:=λM h=>h.symm
  have e:=e _ rfl
  have k00:kf k0 ((c,κ)::S) 0=k0:=rfl
  have c0:=vR e
  have gc:=aD5 (n:=n) (k:=kf k0 ((c,κ)::S)) S.length 0
  rw[show 0+1+S.length=((c,κ)::S).length from add_comm _ _]at gc
  rw[<-gc]
  obtain⟨hI,hJ,h1,h2,y0,yp,lc⟩:=lc.inv
  have cn:=c.ne
  have go:=λ{cur:List Op}=>grp_go n0 (k0:=k0) (P:=[]) (x:=(c,κ)) (b:=0) (cur:=cur) e (le_refl _)
  have op1:opn n (kf k0 ((c,κ)::S)) (cf ((c,κ)::S)) 0 1=(if 0<k0 then [(eqO 0 0 k0).tl n] else [])++[c.op]:=by
   show []++(preq n (kf k0 ((c,κ)::S)) (cf ((c,κ)::S)) 0 (0+0)++[(cf ((c,κ)::S) (0+0)).op])=_
   unfold preq
   rw[xP n0 h0]
   show(if 0<k0 then [Op.mk .eq (c.i-min n k0) c.i (c.j-min n k0) c.j] else [])++[c.op]=_
   rw[hI,hJ,zero_add]
  show groups n (eq0 0 0 k0++c.op::(eq0 c.i2 c.j2 κ++eV S))=_
  by_cases z:k0=0
  ·rw[if_neg (Yc29 z)]at op1
   rw[show eq0 0 0 k0= [] by unfold eq0;rw[if_pos z]]
   show grps n [] (fI n ((bif c.op.tag.isEq then _ else c.op)::(eq0 c.i2 c.j2 κ++eV S)))=_
   rw[cn,cond_false,pX cn,lH cn]
   exact go op1.symm lc y0 yp (by show(!c.op.tag.isEq)=true;rw[cn];rfl)
  ·rw[if_pos (Yc28 h0 z)]at op1
   rw[show eq0 0 0 k0= [eqO 0 0 k0] by unfold eq0;rw[if_neg z]]
   show grps n [] ((eqO 0 0 k0).tl n::fI n (c.op::(eq0 c.i2 c.j2 κ++eV S)))=_
   rw[hY,big_tl n0,pX cn,cond_false,lH cn]
   exact go op1.symm lc y0 yp rfl
end
section
variable {C:Cx}{H B:MH}{K Q:SK}{lo:Lo}
def Cg.v(c:Cg):V:=.tup [.int c.i,.int c.i2,.int c.j,.int c.j2]
def tMt:AF:=b3 3 (asC (aN "ai") (asC (aN "bj") (asC (aN "size") asN)))
theorem tMt_i{t:T3}{R:Lo->MH->Prop}(q:R (upd (upd (upd lo "ai" (.int t.i)) "bj" (.int t.j)) "size" (.int t.k)) H):tMt t.v lo H R:=kch (B:=(3=3/\R (upd (upd (upd lo "ai" (.int t.i)) "bj" (.int t.j)) "size" (.int t.k)) H)) ⋯ ⟨rfl,q⟩
theorem idxm1{α:Type}(vs:List α)(v:α):PySem.seqIndex? (-1) (vs++[v]).length=some vs.length:=by
 rw[seqIndex?_neg_one (by rw[length_append];exact Nat.succ_pos _),length_append];rfl
theorem uX{r:Nat}{vs:List V}{v:V}(h:H[r]? =some (MO.list (vs++[v]))):aR (.ref r) (.int (-1)) H=some (v,H):=pO h (by decide) (idxm1 vs v) (by rw[getElem?_append_right (le_refl _),sub_self];rfl)
theorem setm1{r:Nat}{vs:List V}{v w:V}(h:H[r]? =some (MO.list (vs++[v]))):oS (.ref r) (.int (-1)) w H=some (H.set r (.list (vs++[w]))):=by
 show(H[r]?).bind (setO H r (-1) w)=_
 rw[h]
 show(if-1000000<(-1:Int)/\(-1:Int)<1000000 then(PySem.seqIndex? (-1) (vs++[v]).length).map λj=>H.set r (.list ((vs++[v]).set j w)) else none)=_
 rw[if_pos (by decide),idxm1]
 show some (H.set r (.list ((vs++[v]).set vs.length w)))=_
 rw[List.set_append_right _ _ (le_refl _),sub_self];rfl
theorem tor_i{f g:TF}{P:Bool->MH->Prop}(h:f lo H λb H1=>bif b then P true H1 else g lo H1 P):tOr f g lo H P:=h
theorem lt_e{x y:Int}:bC (λx y=>decide (x<y)) (.int x) (.int y) H=some (.bool (decide (x<y)),H):=rfl
theorem augI_i{g:OpF}{f1 f2 f:EF}(h:f1 lo H λa H1=>f2 lo H1 λb H2=>Lp (aR a b H2) λw H3=>f lo H3 λc H4=>Lp (g w c H4) λv H5=>Lf (oS a b v H5) λH6=>K .next lo H6):nN g f1 f2 f lo H K:=h
def pC:TF:=tOr (tE (aB (bC λx y=>decide (x<y)) (eN "i") (eN "ai"))) (tOr (tE (aB (bC λx y=>decide (x<y)) (eN "j") (eN "bj"))) (tK false))
def pB:SF:=(aA (sIf pC (aA (aS (bZ (eN "changes") (aW (esC (eN "i") (esC (eN "ai") (esC (eN "j") (esC (eN "bj") esN))))))) (aA (aS (bZ (eN "kept") (eK (.int 0)))) (sK .next))) (sK .next)) (aA (nN mU (eN "kept") (i8 (eK (.int 1))) (eN "size")) (aA (cM ["i","j"] (aW (esC (aB aI (eN "ai") (eN "size")) (esC (aB aI (eN "bj") (eN "size")) esN)))) (sK .next))))
section
variable {rc rk rb:Nat}{i j k:Int}
theorem pC_i{ai bj:Int}{P:Bool->MH->Prop}(hi:lo "i" =some (.int i))(ha:lo "ai" =some (.int ai))(hj:lo "j" =some (.int j))(hb:lo "bj" =some (.int bj))(q:P (decide (i<ai\/j<bj)) H):pC lo H P:=by
 refine tor_i (mT (bB (aU hi (aU ha (Lp.mk lt_e (Lf.mk (p:=decide (i<ai)) rfl ?_))))))
 by_cases c:i<ai
 ·rw[decide_eq_true (Or.inl c)]at q
  rw[decide_eq_true c];exact q
 ·rw[decide_eq_false c]
  refine tor_i (mT (bB (aU hj (aU hb (Lp.mk lt_e (Lf.mk (p:=decide (j<bj)) rfl ?_))))))
  by_cases d:j<bj
  ·rw[decide_eq_true (Or.inr d)]at q
   rw[decide_eq_true d];exact q
  ·rw[decide_eq_false (λh=>h.elim c d)]at q
   rw[decide_eq_false d];exact q
def pF(rc rk rb:Nat)(i j:Int):List (Str×V):=[("i",.int i),("j",.int j),("changes",.ref rc),("kept",.ref rk),("blocks",.ref rb)]
inductive L2(B:MH)(rc rk rb:Nat)(CS:List Cg)(KS:List Int)(rest:List V)(lo:Lo)(H:MH):Prop
 |mk {q:List T3}{cs:List Cg}{ks:List Int}{i j k:Int} (er:rest=q.map T3.v) (F:Fs (pF rc rk rb i j) lo) (hx:Hx B H) (h1:H[rc]? =some (.list (cs.map Cg.v))) (h2:H[rk]? =some (.list (ks.map V.int++[.int k])))
  (e1:cs++(pts i j k q).2.map Prod.fst=CS) (e2:ks++(pts i j k q).1::(pts i j k q).2.map Prod.snd=KS):L2 B rc rk rb CS KS rest lo H
theorem p_step{CS:List Cg}{KS:List Int}(hb1:B[rc]? =none)(hb2:B[rk]? =none)(ne:rc≠rk)(cl:CS.length<1000)(kl:KS.length<1000){v:V}{rest:List V}(I:L2 B rc rk rb CS KS (v::rest) lo H)(go:GoK (L2 B rc rk rb CS KS rest) Q K):tMt v lo H λlo1 H1=>pB lo1 H1 K:=by
 cases I with
 | @mk q cs ks i j k er F hx h1 h2 e1 e2=>
 cases q with
 |nil=>cases er
 |cons t q=>
 cases er
 have cl':cs.length<1000:=by have:=congrArg List.length e1;rw[length_append]at this;exact Yc45 cl this
 have kl':ks.length<1000:=by have:=congrArg List.length e2;rw[length_append]at this;exact Yc45 kl this
 refine tMt_i ?_
 have G:=((F.cons "ai" (.int t.i)).cons "bj" (.int t.j)).cons "size" (.int t.k)
 revert G
 generalize upd (upd (upd lo "ai" (.int t.i)) "bj" (.int t.j)) "size" (.int t.k)=lo1
 intro G
 have gi:=G "i" (.int i) ⋯
 have gj:=G "j" (.int j) ⋯
 have ga:=G "ai" (.int t.i) ⋯
 have gb:=G "bj" (.int t.j) ⋯
 have gs:=G "size" (.int t.k) ⋯
 have gc:=G "changes" (.ref rc) ⋯
 have gk:=G "kept" (.ref rk) ⋯
 have fin:∀ {H1:MH}{cs1:List Cg}{ks1:List Int}{k1:Int},Hx B H1->H1[rc]? =some (.list (cs1.map Cg.v))->H1[rk]? =some (.list (ks1.map V.int++[.int k1]))->
   cs1++(pts (t.i+t.k) (t.j+t.k) (k1+t.k) q).2.map Prod.fst=CS->ks1++(pts (t.i+t.k) (t.j+t.k) (k1+t.k) q).1::(pts (t.i+t.k) (t.j+t.k) (k1+t.k) q).2.map Prod.snd=KS->
   bE (aA (nN mU (eN "kept") (i8 (eK (.int 1))) (eN "size")) (aA (cM ["i","j"] (aW (esC (aB aI (eN "ai") (eN "size")) (esC (aB aI (eN "bj") (eN "size")) esN)))) (sK .next))) K .next lo1 H1:=λ{H1 cs1 ks1 k1} x1 q1 q2 d1 d2=>by
  refine aP (aK (augI_i (aU gk (oW (Lp.mk (uX q2) (aU gs (Lp.mk (v:=.int (k1+t.k)) (H:=H1) rfl (Lf.mk (setm1 q2) (aP ?_)))))))))
  refine aK (lF (d8 (aL (Evv.bin (.n ga) (.n gs) kZ _ (aL (Evv.bin (.n gb) (.n gs) kZ _ (bW ⟨(show 2<100 by decide),Lf.mk (p:=[.int (t.i+t.k),.int (t.j+t.k)]) rfl ⟨rfl,Lf.mk (p:=upd (upd lo1 "j" (.int (t.j+t.k))) "i" (.int (t.i+t.k))) ⋯ (aP ?_)⟩⟩)))))))
  have G2:=(G.cons "j" (.int (t.j+t.k))).cons "i" (.int (t.i+t.k))
  revert G2
  generalize upd (upd lo1 "j" (.int (t.j+t.k))) "i" (.int (t.i+t.k))=lo2
  intro G2
  exact go.nx (.mk (q:=q) rfl (G2.re _ ⋯) (x1.set hb2) (aH q1 ne.symm) (aJ q2 _) d1 d2)
 refine aK (nM (pC_i gi ga gj gb ?_))
 by_cases st:i<t.i\/j<t.j
 ·rw[decide_eq_true st]
  rw[jF st]at e1 e2
  refine bX (aK (kC gc h1 (d8 (aL (aU gi (aL (aU ga (aL (aU gj (aL (aU gb (bW ⟨(show 4<100 by decide),kD h1 (by rw[length_map];exact Yc41 cl') (aP (aK (kC gk (aH h2 ne) (eI (kD (aH h2 ne) (by rw[length_append,length_map];show ks.length+1<_;exact Yc44 kl') (aP ?_))))))⟩))))))))))))
  refine fin (cs1:=cs++[⟨i,t.i,j,t.j⟩]) (ks1:=ks++[k]) (k1:=0) ((hx.set hb1).set hb2) ?_ ?_ ?_ ?_
  ·rw[map_append];exact aH (aJ h1 _) ne.symm
  ·rw[map_append];exact aJ (aH h2 ne) _
  ·rw[zero_add,append_assoc];exact e1
  ·rw[zero_add,append_assoc];exact e2
 ·rw[decide_eq_false st]
  rw[oP st]at e1 e2
  exact bR (fin hx h1 h2 e1 e2)
theorem p0_i(q:K .next (upd (upd lo "i" (.int 0)) "j" (.int 0)) H):cC (eK (.int 0)) (fM (aN "i") (aN "j")) lo H K:=kch (B:=K .next (upd (upd lo "i" (.int 0)) "j" (.int 0)) H) ⋯ q
theorem yT(X:XX C){bl:List T3}{R:EK}(hb:H[rb]? =some (.list (bl.map T3.v)))(bn:bl.length<900)(cl:(pts 0 0 0 bl).2.length<900) (k:∀ {H' rc rk},Hx H H'->H'[rc]? =some (.list (((pts 0 0 0 bl).2.map Prod.fst).map Cg.v))->H'[rk]? =some (.list (((pts 0 0 0 bl).1::(pts 0 0 0 bl).2.map Prod.snd).map V.int))->R (.tup [.ref rc,.ref rk]) H'):iE X [.ref rb] H R:=by
 refine⟨rfl,?_⟩
 have F:Fs [("blocks",.ref rb)] (loB ["blocks"] [.ref rb] lo0):=Fs.cons (l:=[]) nofun "blocks" (.ref rb)
 show iA X (loB ["blocks"] [.ref rb] lo0) H (j3 R)
 revert F
 generalize loB ["blocks"] [.ref rb] lo0=lo
 intro F
 refine aK (p0_i (aP ?_))
 have F:=(F.cons "i" (.int 0)).cons "j" (.int 0)
 revert F
 generalize upd (upd lo "i" (.int 0)) "j" (.int 0)=lo
 intro F
 refine aK (lF (d8 (aL (j4 (aL (aBt (eI (s9 (bW ⟨(show 2<100 by decide),Lf.mk (p:=[.ref H.length,.ref (H++[MO.list []]).length]) rfl ⟨rfl,Lf.mk (p:=upd (upd lo "kept" (.ref (H++[MO.list []]).length)) "changes" (.ref H.length)) ⋯ (aP ?_)⟩⟩)))))))))
 have F:=(F.cons "kept" (.ref (H++[MO.list []]).length)).cons "changes" (.ref H.length)
 have x4:Hx H (H++[MO.list []]++[MO.list [.int 0]]):=(Hx.app _ _).trans (.app _ _)
 have q1:(H++[MO.list []]++[MO.list [.int 0]])[H.length]? =some (MO.list []):=(Hx.app _ _) _ _ (bU _ _)
 have q2:=bU (H++[MO.list []]) (MO.list [.int 0])
 have f1:=aQ H
 have f2:H[(H++[MO.list []]).length]? =none:=(Hx.app H [MO.list []]).fresh
 have op:H.length≠(H++[MO.list []]).length:=by rw[length_append];exact(succ_ne_self _).symm
 revert F x4 q1 q2 f1 f2 op
 generalize upd (upd lo "kept" (.ref (H++[MO.list []]).length)) "changes" (.ref H.length)=lo2
 generalize (H++[MO.list []]).length=rk
 generalize H.length=rc
 generalize H++[MO.list []]++[MO.list [.int 0]]=H4
 intro F x4 q1 q2 f1 f2 op
 refine aK ?_
 show eY (cU C) (iL (eN "blocks")) tMt pB lo2 H4 _
 refine jY (iL_i (λq=>aU (F _ (.ref rb) ⋯) q) (aX (x4 _ _ hb)) ⟨_,fR (vs:=bl.map T3.v) (L2 H rc rk rb ((pts 0 0 0 bl).2.map Prod.fst) ((pts 0 0 0 bl).1::(pts 0 0 0 bl).2.map Prod.snd)) (λI=>?_) (λI=>?_) (λI go=>p_step f1 f2 op (by rw[length_map];exact Yc43 cl) (by rw[length_cons,length_map];exact Yc42 cl) I go) _ 0 rfl (.mk (q:=bl) (cs:=[]) (ks:=[]) (i:=0) (j:=0) (k:=0) rfl (F.re _ ⋯) x4 q1 q2 rfl rfl)⟩)
 ·cases I with
  |mk er F hx=>exact aX (hx _ _ hb)
 ·cases I with
  | @mk q cs ks i j k' er F hx h1 h2 e1 e2=>
   cases List.map_eq_nil_iff.mp er.symm
   refine aP (aK (jX (d8 (aL (aU (F _ (.ref rc) ⋯) (aL (aU (F _ (.ref rk) ⋯) (bW ⟨(show 2<100 by decide),k hx ?_ ?_⟩))))))))
   ·rw[<-e1]
    show _=some (MO.list ((cs++[]).map Cg.v))
    rw[append_nil];exact h1
   ·rw[<-e2]
    show _=some (MO.list ((ks++[k']).map V.int))
    rw[map_append];exact h2
end
end
section
variable {C:Cx}{H B:MH}{K Q:SK}{lo:Lo}
def tCg:AF:=b3 4 (asC (aN "i") (asC (aN "iend") (asC (aN "j") (asC (aN "jend") asN))))
def loC(c:Cg)(lo:Lo):Lo:=upd (upd (upd (upd lo "i" (.int c.i)) "iend" (.int c.i2)) "j" (.int c.j)) "jend" (.int c.j2)
theorem tCg_i{c:Cg}{R:Lo->MH->Prop}(q:R (loC c lo) H):tCg c.v lo H R:=kch (B:=(4=4/\R (loC c lo) H)) ⋯ ⟨rfl,q⟩
theorem vK{t:TF}{f g:EF}{Q:EK}(h:t lo H λb H1=>bif b then f lo H1 Q else g lo H1 Q):eIf t f g lo H Q:=h
theorem gt_e{x y:Int}:bC (λx y=>decide (x>y)) (.int x) (.int y) H=some (.bool (decide (x>y)),H):=rfl
def hSz:EF:=eIf (tE (aB (bC λx y=>decide (x>y)) (eN "k") (eN "begin"))) (aB aR (eN "kept") (eN "k")) (aM jC (esC (eN "n") (esC (aB aR (eN "kept") (eN "k")) esN)))
def hEq:SF:=aA (sIf (tE (aB (bC λx y=>decide (x>y)) (aB aR (eN "kept") (eN "k")) (eK (.int 0)))) (aA (aS (bZ (eN "rows") (aW (esC (eK (.str "equal")) (esC (aB cE (eN "i") (eN "size")) (esC (eN "i") (esC (aB cE (eN "j") (eN "size")) (esC (eN "j") esN)))))))) (sK .next)) (sK .next))
 (aA (aS (bZ (eN "rows") (aW (esC (eIf (tE (aB (bG id) (eN "i") (eN "iend"))) (eK (.str "insert")) (eIf (tE (aB (bG id) (eN "j") (eN "jend"))) (eK (.str "delete")) (eK (.str "replace")))) (esC (eN "i") (esC (eN "iend") (esC (eN "j") (esC (eN "jend") esN)))))))) (sK .next))
def hB:SF:=aA (cC (aB aR (eN "changes") (eN "k")) tCg) (aA (aZ "size" hSz) hEq)
section
variable {rc rk rr b e:Nat}{n k0:Int}{L:List (Cg×Int)}
def hF(rc rk rr b e:Nat)(n:Int):List (Str×V):=[("changes",.ref rc),("kept",.ref rk),("n",.int n),("begin",.int b),("end",.int e),("rows",.ref rr)]
theorem at_cg{t:Nat}(h:H[rc]? =some (.list ((L.map Prod.fst).map Cg.v)))(tl:t<L.length)(ll:L.length<1000){Q:EK}(q:Q (cf L t).v H):Lp (aR (.ref rc) (nv t) H) Q:=by
 refine at_k h (v:=(cf L t).v) ?_ (by rw[length_map,length_map];exact Yc69 ll) q
 unfold cf
 rw[getElem?_map,getElem?_map,getElem?_eq_getElem tl,getD_eq_getElem?_getD,getElem?_eq_getElem tl];rfl
theorem pJ:(ksL k0 L).length=L.length+1:=congrArg Nat.succ (length_map ..)
theorem vV{t:Nat}(h:H[rk]? =some (.list ((ksL k0 L).map V.int)))(tl:t<=L.length)(ll:L.length<1000){Q:EK}(q:Q (.int (kf k0 L t)) H):Lp (aR (.ref rk) (nv t) H) Q:=by
 have ln:=pJ (k0:=k0) (L:=L)
 refine at_k h (v:=.int (kf k0 L t)) ?_ (by rw[length_map];exact Yc68 ll ln) q
 unfold kf
 rw[getElem?_map,getElem?_eq_getElem (Yc67 tl ln),getD_eq_getElem?_getD,getElem?_eq_getElem (Yc67 tl ln)];rfl
theorem yN{f0 f1 f2 f3 f4:EF}{x0:Str}{x1 x2 x3 x4:Int}{vs:List V}(hr:lo "rows" =some (.ref rr))(h:H[rr]? =some (.list vs))(vl:vs.length<10000)(h0:Evv f0 lo H (.str x0))(h1:Evv f1 lo H (.int x1))(h2:Evv f2 lo H (.int x2))(h3:Evv f3 lo H (.int x3))(h4:Evv f4 lo H (.int x4))(k:K .next lo (H.set rr (.list (vs++[.tup [.str x0,.int x1,.int x2,.int x3,.int x4]])))):aS (bZ (eN "rows") (aW (esC f0 (esC f1 (esC f2 (esC f3 (esC f4 esN))))))) lo H K:=kC hr h (d8 (aL (h0 _ (aL (h1 _ (aL (h2 _ (aL (h3 _ (aL (h4 _ (bW ⟨(show 5<100 by decide),kD h (lt_trans vl (by decide)) k⟩))))))))))))
theorem tag_e{c:Cg}(h1:lo "i" =some (.int c.i))(h2:lo "iend" =some (.int c.i2))(h3:lo "j" =some (.int c.j))(h4:lo "jend" =some (.int c.j2)):Evv (eIf (tE (aB (bG id) (eN "i") (eN "iend"))) (eK (.str "insert")) (eIf (tE (aB (bG id) (eN "j") (eN "jend"))) (eK (.str "delete")) (eK (.str "replace")))) lo H (.str c.op.tag.s):=λQ q=>by
 refine vK (mT (bB (aU h1 (aU h2 (Lp.mk vH (Lf.mk (p:=decide (c.i=c.i2)) rfl ?_))))))
 unfold Cg.op at q
 by_cases d:c.i=c.i2
 ·rw[decide_eq_true d]
  rw[if_pos d]at q
  exact bX (eI q)
 ·rw[decide_eq_false d]
  rw[if_neg d]at q
  refine bR (vK (mT (bB (aU h3 (aU h4 (Lp.mk vH (Lf.mk (p:=decide (c.j=c.j2)) rfl ?_)))))))
  by_cases f:c.j=c.j2
  ·rw[decide_eq_true f]
   rw[if_pos f]at q
   exact bX (eI q)
  ·rw[decide_eq_false f]
   rw[if_neg f]at q
   exact bR (eI q)
inductive L3(B:MH)(rc rk rr b e:Nat)(n k0:Int)(L:List (Cg×Int))(x:Int)(lo:Lo)(H:MH):Prop
 |mk {m:Nat} (ex:x=((b+m:Nat):Int)) (F:Fs (hF rc rk rr b e n) lo) (hx:Hx B H) (h:H[rr]? =some (.list ((opn n (kf k0 L) (cf L) b m).map Op.v))):L3 B rc rk rr b e n k0 L x lo H
theorem uK{k:Nat->Int}{c:Nat->Cg}:∀ m,(opn n k c b m).length<=2*m:=λm=>by
 induction m with
 |zero=>exact le_refl _
 |succ m ih=>
  have:(preq n k c b (b+m)).length<=1:=by
   unfold preq
   split
   ·exact le_refl _
   ·exact zero_le _
  show(opn n k c b m++(preq n k c b (b+m)++[(c (b+m)).op])).length<=_
  rw[length_append,length_append,length_singleton];exact Yc66 ih this
theorem h_step(h1:B[rc]? =some (.list ((L.map Prod.fst).map Cg.v)))(h2:B[rk]? =some (.list ((ksL k0 L).map V.int)))(hr:B[rr]? =none)(el:e<=L.length)(ll:L.length<1000){x:Int}(xe:x<e)(I:L3 B rc rk rr b e n k0 L x lo H)(go:GoK (L3 B rc rk rr b e n k0 L (x+1)) Q K):aN "k" (.int x) lo H λlo1 H1=>hB lo1 H1 K:=by
 cases I with
 | @mk m ex F hx h=>
 subst ex
 have tl:b+m<e:=by exact Yc65 xe
 have ol:=uK (n:=n) (k:=kf k0 L) (c:=cf L) (b:=b) m
 have G:=F.cons "k" (nv (b+m))
 show hB (upd lo "k" (nv (b+m))) H K
 revert G
 generalize upd lo "k" (nv (b+m))=lo1
 intro G
 refine aK (jZ (bB (aU (G _ (.ref rc) ⋯) (aU (G _ (nv (b+m)) ⋯) (at_cg (hx _ _ h1) (Yc64 el tl) ll (tCg_i (aP ?_)))))))
 generalize hc:cf L (b+m)=c
 generalize hκ:kf k0 L (b+m)=κ
 have G:=(((G.cons "i" (.int c.i)).cons "iend" (.int c.i2)).cons "j" (.int c.j)).cons "jend" (.int c.j2)
 change Fs _ (loC c lo1) at G
 revert G
 generalize loC c lo1=lo2
 intro G
 have gk:=G "k" (nv (b+m)) ⋯
 have gke:=G "kept" (.ref rk) ⋯
 have ak:∀ {Q:EK},Q (.int κ) H->aB aR (eN "kept") (eN "k") lo2 H Q:=λ{Q} q=>bB (aU gke (aU gk (vV (hx _ _ h2) (Yc59 el tl) ll (by rw[hκ];exact q))))
 have sz:∀ {Q:EK},Q (.int (if b<b+m then κ else min n κ)) H->hSz lo2 H Q:=λ{Q} q=>by
  refine vK (mT (bB (aU gk (aU (G _ (.int b) ⋯) (Lp.mk gt_e (Lf.mk (p:=decide (((b+m:Nat):Int)>b)) rfl ?_))))))
  by_cases d:b<b+m
  ·rw[if_pos d]at q
   rw[decide_eq_true (Yc63 d)]
   exact bX (ak q)
  ·rw[if_neg d]at q
   rw[decide_eq_false (Yc62 d)]
   exact bR (cJ (aL (aU (G _ (.int n) ⋯) (aL (ak (bW (uR q)))))))
 refine aK (fH (sz (aP ?_)))
 generalize hs:(if b<b+m then κ else min n κ)=s
 have G:=G.cons "size" (.int s)
 revert G
 generalize upd lo2 "size" (.int s)=lo3
 intro G
 have gk:=G "k" (nv (b+m)) ⋯
 have gke:=G "kept" (.ref rk) ⋯
 have gi:=G "i" (.int c.i) ⋯
 have gj:=G "j" (.int c.j) ⋯
 have gr:=G "rows" (.ref rr) ⋯
 have gs:=G "size" (.int s) ⋯
 have fin:∀ {H1:MH}{R:List Op},Hx B H1->H1[rr]? =some (.list (R.map Op.v))->R.length<9000->R++[c.op]=opn n (kf k0 L) (cf L) b (m+1)->
   bE (aA (aS (bZ (eN "rows") (aW (esC (eIf (tE (aB (bG id) (eN "i") (eN "iend"))) (eK (.str "insert")) (eIf (tE (aB (bG id) (eN "j") (eN "jend"))) (eK (.str "delete")) (eK (.str "replace")))) (esC (eN "i") (esC (eN "iend") (esC (eN "j") (esC (eN "jend") esN)))))))) (sK .next)) K .next lo3 H1:=λ{H1 R} x1 q1 rl e1=>by
  refine aP (aK (yN gr q1 (by rw[length_map];exact Yc61 rl) (tag_e gi (G _ (.int c.i2) ⋯) gj (G _ (.int c.j2) ⋯)) (.n gi) (.n (G _ (.int c.i2) ⋯)) (.n gj) (.n (G _ (.int c.j2) ⋯)) (aP (go.nx (.mk (m:=m+1) Yc60 (G.re _ ⋯) (x1.set hr) ?_)))))
  rw[<-e1,map_append]
  exact aJ q1 _
 refine aK (nM (mT (bB (bB (aU gke (aU gk (vV (hx _ _ h2) (Yc59 el tl) ll (eI (Lp.mk gt_e (Lf.mk (p:=decide (kf k0 L (b+m)>0)) rfl ?_))))))))))
 rw[hκ]
 have op:opn n (kf k0 L) (cf L) b (m+1)=opn n (kf k0 L) (cf L) b m++((if 0<κ then [⟨.eq,c.i-s,c.i,c.j-s,c.j⟩] else [])++[c.op]):=by
  show _++(preq n (kf k0 L) (cf L) b (b+m)++[(cf L (b+m)).op])=_
  unfold preq
  rw[hc,hκ,hs]
 by_cases d:0<κ
 ·rw[if_pos d]at op
  rw[decide_eq_true (show κ>0 from d)]
  refine bX (aK (yN gr h (by rw[length_map];exact Yc58 el ll tl ol) .k (.bin (.n gi) (.n gs) sub_e) (.n gi) (.bin (.n gj) (.n gs) sub_e) (.n gj) (aP (fin (R:=opn n (kf k0 L) (cf L) b m++[⟨.eq,c.i-s,c.i,c.j-s,c.j⟩]) (hx.set hr) ?_ (by rw[length_append,length_singleton];exact Yc57 el ll tl ol) (by rw[op,append_assoc])))))
  rw[map_append]
  exact aJ h _
 ·rw[if_neg d]at op
  rw[decide_eq_false (show¬κ>0 from d)]
  exact bR (fin hx h (Yc56 el ll tl ol) op.symm)
theorem iR2_i{a c:Nat}{E1 E2:EF}{P:Int×Nat×Int->MH->Prop}(ac:a<=c)(cl:c<100000)(h1:Evv E1 lo H (.int a))(h2:Evv E2 lo H (.int c))(q:P ((a:Int),c-a,1) H):iR (aM cY (esC E1 (esC E2 esN))) lo H P:=by
 refine h1 _ (aL (h2 _ (bW (rng2_i (Lf.mk (p:=((a:Int),(c:Int),1)) rfl ⟨?_,?_⟩)))))
 ·show rOk (a:Int) (c:Int) 1=true
  unfold rOk
  rewrite [decide_eq_true (show-1000000<(a:Int) by exact Yc54),decide_eq_true (show(a:Int)<1000000 by exact Yc55 ac cl),decide_eq_true (show-1000000<(c:Int) by exact Yc54),decide_eq_true (show(c:Int)<1000000 by exact Yc53 cl)];rfl
 ·have:oO (a:Int) (c:Int) 1=c-a:=by
   show((c:Int)-a).toNat=_
   exact Yc52
  rw[this];exact q
theorem xZ(X:XX C){R:EK}(h1:H[rc]? =some (.list ((L.map Prod.fst).map Cg.v)))(h2:H[rk]? =some (.list ((ksL k0 L).map V.int)))(be:b<e)(el:e<=L.length)(ll:L.length<1000)(k:∀ {H' r},Hx H H'->H'[r]? =some (.list ((shw n (kf k0 L) (cf L) b e).map Op.v))->H[r]? =none->R (.ref r) H'):dF X [.ref rc,.ref rk,.int n,.int b,.int e] H R:=by
 refine⟨rfl,?_⟩
 have F:Fs [("end",.int e),("begin",.int b),("n",.int n),("kept",.ref rk),("changes",.ref rc)] (loB ["changes","kept","n","begin","end"] [.ref rc,.ref rk,.int n,.int b,.int e] lo0):=((((Fs.cons (l:=[]) nofun "changes" (.ref rc)).cons "kept" (.ref rk)).cons "n" (.int n)).cons "begin" (.int b)).cons "end" (.int e)
 show hZ X (loB ["changes","kept","n","begin","end"] [.ref rc,.ref rk,.int n,.int b,.int e] lo0) H (j3 R)
 revert F
 generalize loB ["changes","kept","n","begin","end"] [.ref rc,.ref rk,.int n,.int b,.int e] lo0=lo
 intro F
 refine aK (fH (j4 (aP (aK ?_))))
 have F:=F.cons "rows" (.ref H.length)
 have x4:Hx H (H++[MO.list []]):=Hx.app _ _
 have q1:=bU H (MO.list [])
 have f1:=aQ H
 revert F x4 q1 f1
 generalize upd lo "rows" (.ref H.length)=lo
 generalize H.length=rr
 generalize H++[MO.list []]=H4
 intro F x4 q1 f1
 show eY (hV C) (iR (aM cY (esC (eN "begin") (esC (eN "end") esN)))) (aN "k") hB lo H4 _
 refine jY (iR2_i (Nat.le_of_lt be) (Yc51 el ll) (.n (F _ (.int b) ⋯)) (.n (F _ (.int e) ⋯)) ⟨_,jO (L3 H rc rk rr b e n k0 L) (e:=(e:Int)) (λ{lo5 H5} I=>?_) (λxe I go=>h_step h1 h2 f1 el ll xe I go) (e-b) b (Yc50 be) (.mk (m:=0) rfl (F.re _ ⋯) x4 q1)⟩)
 cases I with
 | @mk m ex F hx h=>
 have em:m=e-b:=by exact Yc49 ex
 subst em
 have ol:=uK (n:=n) (k:=kf k0 L) (c:=cf L) (b:=b) (e-b)
 refine aP (aK (fH (cJ (aL (aU (F _ (.int n) ⋯) (aL (bB (aU (F _ (.ref rk) ⋯) (aU (F _ (nv e) ⋯) (vV (hx _ _ h2) el ll (bW (uR (aP (aK ?_))))))))))))))
 have F:=F.cons "size" (.int (min n (kf k0 L e)))
 revert F
 generalize upd _ "size" (.int (min n (kf k0 L e)))=lo
 intro F
 generalize hc:cf L (e-1)=c
 have ai:∀ {z:Int}{Q:EK}{w:Int},Lp (aR c.v (.int z) H5) Q->aB aR (aB aR (eN "changes") (aB cE (eN "end") (eK (.int 1)))) (eK (.int z)) lo H5 Q:=λ{z Q w} hz=>bB (bB (aU (F _ (.ref rc) ⋯) (bB (aU (F _ (nv e) ⋯) (eI (Lp.mk (v:=nv (e-1)) (H:=H5) (by show some (V.int ((e:Int)-1),H5)=some (.int ((e-1:Nat):Int),H5);rw[show ((e-1:Nat):Int)=(e:Int)-1 by exact Yc48 be]) (at_cg (t:=e-1) (hx _ _ h1) (Yc47 be el) ll (eI (by rw[hc];exact hz)))))))))
 refine lF (d8 (aL (ai (w:=c.i2) (Lp.mk (v:=.int c.i2) (H:=H5) ⋯ (aL (ai (w:=c.j2) (Lp.mk (v:=.int c.j2) (H:=H5) ⋯ (bW ⟨(show 2<100 by decide),Lf.mk (p:=[.int c.i2,.int c.j2]) rfl ⟨rfl,Lf.mk (p:=upd (upd lo "j" (.int c.j2)) "i" (.int c.i2)) ⋯ (aP (aK ?_))⟩⟩))))))))
 have F:=(F.cons "j" (.int c.j2)).cons "i" (.int c.i2)
 revert F
 generalize upd (upd lo "j" (.int c.j2)) "i" (.int c.i2)=lo
 intro F
 have gi:=F "i" (.int c.i2) ⋯
 have gj:=F "j" (.int c.j2) ⋯
 have gs:=F "size" (.int (min n (kf k0 L e))) ⋯
 have gr:=F "rows" (.ref rr) ⋯
 have es:shw n (kf k0 L) (cf L) b e=opn n (kf k0 L) (cf L) b (e-b)++(if 0<kf k0 L e then [⟨.eq,c.i2,c.i2+min n (kf k0 L e),c.j2,c.j2+min n (kf k0 L e)⟩] else []):=by unfold shw;rw[hc]
 rw[es]at k
 refine nM (mT (bB (bB (aU (F _ (.ref rk) ⋯) (aU (F _ (nv e) ⋯) (vV (hx _ _ h2) el ll (eI (Lp.mk gt_e (Lf.mk (p:=decide (kf k0 L e>0)) rfl ?_)))))))))
 by_cases d:0<kf k0 L e
 ·rw[if_pos d]at k
  rw[decide_eq_true (show kf k0 L e>0 from d)]
  refine bX (aK (yN gr h (by rw[length_map];exact Yc46 el ll ol) .k (.n gi) (.bin (.n gi) (.n gs) kZ) (.n gj) (.bin (.n gj) (.n gs) kZ) (aP (aP (aK (jX (aU gr (k (hx.set f1) ?_ f1))))))))
  rw[map_append]
  exact aJ h _
 ·rw[if_neg d,append_nil]at k
  rw[decide_eq_false (show¬kf k0 L e>0 from d)]
  exact bR (aP (aK (jX (aU gr (k hx h f1)))))
end
end
section
variable {C:Cx}{H B:MH}{K Q:SK}{lo:Lo}
def pV(p:Nat×Nat):V:=.tup [.int p.1,.int p.2]
def pD(p:Nat×Nat):PyData:=.tuple [.int p.1,.int p.2]
structure Wy where
 c:Int
 r:Int
 l:List (Nat×Nat)
def wD(x:Wy):PyData:=.tuple [.int x.c,.int x.r,.list (x.l.map pD)]
theorem nU{f:PyData->PyData->Option Bool}{x y:PyData}{xs ys:List PyData}(h:(SeqAt.shaped x && SeqAt.shaped y)=true):ltS f (x::xs) (y::ys)=bif x.eqv y then ltS f xs ys else f x y:=by
 show(if (SeqAt.shaped x && SeqAt.shaped y)=true then(if x.eqv y=true then ltS f xs ys else f x y) else none)=_
 rw[if_pos h]
 cases x.eqv y<;>rfl
theorem ltP(p q:Nat×Nat):∃ t,ltD 3 (pD p) (pD q)=some t:=by
 show ∃ t,ltS (ltD 2) [.int p.1,.int p.2] [.int q.1,.int q.2]=some t
 rw[nU rfl]
 cases PyData.eqv (.int p.1) (.int q.1) with
 |false=>exact⟨_,rfl⟩
 |true=>
  show ∃ t,ltS (ltD 2) [.int p.2] [.int q.2]=some t
  rw[nU rfl]
  cases PyData.eqv (.int p.2) (.int q.2) with
  |false=>exact⟨_,rfl⟩
  |true=>exact⟨_,rfl⟩
theorem ltPs:∀ ps qs:List (Nat×Nat),∃ t,ltS (ltD 3) (ps.map pD) (qs.map pD)=some t:=λps=>by
 induction ps with
 |nil=>exact λqs=>⟨_,rfl⟩
 |cons p ps ih=>
  intro qs
  cases qs with
  |nil=>exact⟨_,rfl⟩
  |cons q qs=>
   show ∃ t,ltS (ltD 3) (pD p::ps.map pD) (pD q::qs.map pD)=some t
   rw[nU rfl]
   cases(pD p).eqv (pD q) with
   |true=>exact ih qs
   |false=>exact ltP p q
theorem nO(l:List (Nat×Nat)):SeqAt.shaped (.list (l.map pD))=true:=nQ λx _=>⟨rfl,(by decide:1<=9)⟩
structure WLt(x y:Wy)(t:Bool):Prop where
 e:ltD 5 (wD x) (wD y)=some t
 l:x.c<y.c->t=true
 g:y.c<x.c->t=false
 el:x.c=y.c->x.r<y.r->t=true
 eg:x.c=y.c->y.r<x.r->t=false
theorem xB(x y:Wy):∃ t,WLt x y t:=by
 have e0:ltD 5 (wD x) (wD y)=bif decide (x.c=y.c) then ltS (ltD 4) [.int x.r,.list (x.l.map pD)] [.int y.r,.list (y.l.map pD)] else some (decide (x.c<y.c)):=by
  show ltS (ltD 4) [.int x.c,.int x.r,.list (x.l.map pD)] [.int y.c,.int y.r,.list (y.l.map pD)]=_
  rw[nU rfl];rfl
 have e1:ltS (ltD 4) [.int x.r,.list (x.l.map pD)] [.int y.r,.list (y.l.map pD)]=bif decide (x.r=y.r) then ltS (ltD 4) [.list (x.l.map pD)] [.list (y.l.map pD)] else some (decide (x.r<y.r)):=by
  rw[nU rfl];rfl
 by_cases c:x.c=y.c
 ·rw[decide_eq_true c,cond_true,e1]at e0
  by_cases r:x.r=y.r
  ·rw[decide_eq_true r,cond_true,nU (by rw[nO,nO];rfl)]at e0
   have:∃ t,ltD 5 (wD x) (wD y)=some t:=by
    rw[e0]
    cases PyData.eqv (.list (x.l.map pD)) (.list (y.l.map pD)) with
    |true=>exact⟨_,rfl⟩
    |false=>exact ltPs _ _
   obtain⟨t,h⟩:=this
   exact⟨t,h,λl=>by exact(Yc74 c l).elim,λl=>by exact(Yc73 c l).elim,λ_ l=>by exact(Yc74 r l).elim,λ_ l=>by exact(Yc73 r l).elim⟩
  ·rw[decide_eq_false r,cond_false]at e0
   exact⟨_,e0,λl=>by exact(Yc74 c l).elim,λl=>by exact(Yc73 c l).elim,λ_ l=>decide_eq_true l,λ_ l=>decide_eq_false (Yc72 l)⟩
 ·rw[decide_eq_false c,cond_false]at e0
  exact⟨_,e0,λl=>decide_eq_true l,λl=>decide_eq_false (Yc72 l),λe=>absurd e c,λe=>absurd e c⟩
theorem aEp{bt:Nat->Nat->Bool}{w:Nat}:∀ {m:Nat},w<=m->(∀ j,j<=m->j≠w->bt w j=true/\bt j w=false)->argBest bt m=w:=λ{m}=>by
 induction m with
 |zero=>intro h _;exact(Nat.le_zero.mp h).symm
 |succ m ih=>
  intro h hb
  unfold argBest
  by_cases e:w=m+1
  ·have:argBest bt m≠w:=by have:=qR (m:=m) bt;exact Yc71 e this
   rw[<-e,(hb _ (by have:=qR (m:=m) bt;exact Yc70 this) this).1];rfl
  ·rw[ih (Yc22 h e) λj hj ne=>hb j (Yc70 hj) ne,(hb (m+1) (le_refl _) λq=>e q.symm).2];rfl
end
section
variable {C:Cx}{H B:MH}{K Q:SK}{lo:Lo}
theorem eSlc_i{f f1 f2 f3:EF}{Q:EK}(h:f lo H λv H0=>f1 lo H0 λa H1=>f2 lo H1 λb H2=>f3 lo H2 λc H3=>Lf (prt a) λpa=>Lf (prt b) λpb=>Lf (prt c) λpc=>Lp (slc v pa pb pc H3) Q):sB f f1 f2 f3 lo H Q:=h
def wE(r:Nat)(x:Wy):V:=.tup [.int x.c,.int x.r,.ref r]
theorem wE_rd{x:Wy}{r:Nat}(h:H[r]? =some (.list (x.l.map pV))):rd H 6 (wE r x)=some (wD x):=by
 have a:rd H 5 (.ref r)=some (.list (x.l.map pD)):=lG (n:=4) pV pD (aX h) λp _=>rfl
 show(([V.int x.c,.int x.r,.ref r]).mapM (rd H 5)).map PyData.tuple=_
 rw[mapM_cons,mapM_cons,mapM_cons,List.mapM_nil,a];rfl
structure WL(H:MH)(r cnt:Nat)(f:Nat->Wy)(rs:Nat->Nat):Prop where
 h:H[r]? =some (.list ((List.range cnt).map λt=>wE (rs t) (f t)))
 hd:∀ t,t<cnt->H[rs t]? =some (.list ((f t).l.map pV))/\rs t≠r
section
variable {rk rb rw r cnt e:Nat}{n:Int}{ks:List Int}{f:Nat->Wy}{rs:Nat->Nat}
theorem WL.hx{H':MH}(W:WL H r cnt f rs)(x:Hx H H'):WL H' r cnt f rs:=⟨x _ _ W.h,λt ht=>⟨x _ _ (W.hd t ht).1,(W.hd t ht).2⟩⟩
theorem WL.push(W:WL H r cnt f rs){q:Nat}(hq:H[q]? =some (.list ((f cnt).l.map pV)))(ne:q≠r):WL (H.set r (.list (((List.range cnt).map λt=>wE (rs t) (f t))++[wE q (f cnt)]))) r (cnt+1) f (λt=>if t=cnt then q else rs t):=by
 refine⟨?_,λt ht=>?_⟩
 ·rw[aJ W.h]
  congr 2
  rw[List.range_succ,map_append]
  refine congr (congrArg _ (List.map_congr_left λt ht=>?_)) ?_
  ·rw[if_neg (ne_of_lt (List.mem_range.mp ht))]
  ·show [wE q (f cnt)]= [wE (if cnt=cnt then q else rs cnt) (f cnt)]
   rw[if_pos rfl]
 ·by_cases c:t=cnt
  ·rw[if_pos c,c];exact⟨aH hq ne.symm,ne⟩
  ·rw[if_neg c]
   have:=W.hd t (Yc83 ht c)
   exact⟨aH this.1 this.2.symm,this.2⟩
theorem WL.get(W:WL H r cnt f rs){t:Nat}(ht:t<cnt):((List.range cnt).map λt=>wE (rs t) (f t))[t]? =some (wE (rs t) (f t)):=by
 rw[getElem?_map,List.getElem?_range ht];rfl
theorem WL.len:((List.range cnt).map λt=>wE (rs t) (f t)).length=cnt:=(length_map ..).trans List.length_range
def kg(ks:List Int)(t:Nat):Int:=ks.getD t 0
def Wb(n:Int)(ks:List Int)(t:Nat):Wy:=⟨itm n (kg ks) t,((eG n (kg ks) t).length:Nat),eG n (kg ks) t⟩
def sh3(n:Int)(ks:List Int)(e t:Nat):Int:=min n (kg ks t)+sm (kg ks) (t+1) (e-1-t)+min n (kg ks e)
def Ww(n:Int)(ks:List Int)(e t:Nat):Wy:=⟨itm n (kg ks) t+sh3 n ks e t,((eG n (kg ks) t).length:Nat)+1,eG n (kg ks) t++[(t,e)]⟩
theorem at_kg{t:Nat}(h:H[rk]? =some (.list (ks.map V.int)))(tl:t<ks.length)(kl:ks.length<1000){Q:EK}(q:Q (.int (kg ks t)) H):Lp (aR (.ref rk) (nv t) H) Q:=by
 refine at_k h (v:=.int (kg ks t)) ?_ (by rw[length_map];exact Yc69 kl) q
 unfold kg
 rw[getElem?_map,getElem?_eq_getElem tl,getD_eq_getElem?_getD,getElem?_eq_getElem tl];rfl
def bF(rk rb rw e:Nat)(n:Int):List (Str×V):=[("kept",.ref rk),("n",.int n),("best",.ref rb),("end",.int e),("ways",.ref rw)]
def bSh:EF:=(aB aI (aB aI (aM jC (esC (eN "n") (esC (aB aR (eN "kept") (eN "begin")) esN))) (aM cSum (esC (sB (eN "kept") (aB aI (eN "begin") (eK (.int 1))) (eN "end") (eK .none)) esN))) (aM jC (esC (eN "n") (esC (aB aR (eN "kept") (eN "end")) esN))))
def bT:AF:=b3 3 (asC (aN "items") (asC (aN "runs") (asC (aN "cut") asN)))
theorem bT_i{x:Wy}{R:Lo->MH->Prop}(q:R (upd (upd (upd lo "items" (.int x.c)) "runs" (.int x.r)) "cut" (.ref r)) H):bT (wE r x) lo H R:=kch (B:=(3=3/\R (upd (upd (upd lo "items" (.int x.c)) "runs" (.int x.r)) "cut" (.ref r)) H)) ⋯ ⟨rfl,q⟩
def bA:SF:=(aA (aS (bZ (eN "ways") (aW (esC (aB aI (eN "items") (eN "shown")) (esC (aB aI (eN "runs") (eK (.int 1))) (esC (aB aI (eN "cut") (d9 (esC (aW (esC (eN "begin") (esC (eN "end") esN))) esN))) esN)))))) (sK .next))
def bI:SF:=(aA (aZ "shown" bSh) (aA (cC (aB aR (eN "best") (eN "begin")) bT) bA))
theorem bSh_i{t:Nat}{Q:EK}(hk:H[rk]? =some (.list (ks.map V.int)))(kl:ks.length<1000)(te:t<e)(el:e<ks.length)(g1:lo "n" =some (.int n))(g2:lo "kept" =some (.ref rk))(g3:lo "begin" =some (nv t))(g4:lo "end" =some (nv e))(k:∀ {H'},Hx H H'->Q (.int (sh3 n ks e t)) H'):bSh lo H Q:=by
 have lm:(ks.map V.int).length=ks.length:=length_map ..
 refine bB (bB (cJ (aL (aU g1 (aL (bB (aU g2 (aU g3 (at_kg hk (Yc82 te el) kl (bW (uR (cJ (aL (eSlc_i (aU g2 (Evv.bin (.n g3) .k kZ _ (aU g4 (eI (Lf.mk (p:=some ((t:Int)+1)) rfl (Lf.mk (p:=some (e:Int)) rfl (Lf.mk (p:=none) rfl (slc_i (aX hk) (by rw[lm];exact Yc41 kl) nofun ?_))))))))))))))))))))))
 rw[pk_sl (l:=ks) Yc81 (Yc80 te) (Yc79 el)]
 refine bW (sum_i (l:=sl ks ((t:Int)+1) e) (aX (bU _ _)) ?_)
 have es:(sl ks ((t:Int)+1) e).sum=sm (kg ks) (t+1) (e-1-t):=by
  unfold sl
  rw[show ((t:Int)+1).toNat=t+1 by exact Yc78,show (e:Int).toNat=e by exact Yc77,show e-(t+1)=e-1-t by exact Yc76]
  exact sm_eq ks (t+1) _ (Yc75 te el)
 rw[es]
 refine Lp.mk (v:=.int (min n (kg ks t)+sm (kg ks) (t+1) (e-1-t))) rfl ?_
 exact cJ (aL (aU g1 (aL (bB (aU g2 (aU g4 (at_kg ((Hx.app _ _) _ _ hk) el kl (bW (uR (Lp.mk (v:=.int (sh3 n ks e t)) rfl (k (Hx.app _ _))))))))))))
end
end
section
variable {C:Cx}{H B:MH}{K Q:SK}{lo:Lo}
section
variable {rk rb rw r e:Nat}{n:Int}{ks:List Int}{rs:Nat->Nat}
inductive L4(B:MH)(rk rb rw e:Nat)(n:Int)(ks:List Int)(x:Int)(lo:Lo)(H:MH):Prop
 |mk {b:Nat}{ws:Nat->Nat} (ex:x=(b:Int)) (be:b<=e) (F:Fs (bF rk rb rw e n) lo) (hx:Hx B H) (W:WL H rw b (Ww n ks e) ws) (fr:∀ t,t<b->B[ws t]? =none):L4 B rk rb rw e n ks x lo H
theorem i_step(hk:B[rk]? =some (.list (ks.map V.int)))(kl:ks.length<1000)(el:e<ks.length)(hw:B[rw]? =none)(WB:WL B rb e (Wb n ks) rs)(cl:∀ t,t<e->(eG n (kg ks) t).length<1000){x:Int}(xe:x<e)(I:L4 B rk rb rw e n ks x lo H)(go:GoK (L4 B rk rb rw e n ks (x+1)) Q K):aN "begin" (.int x) lo H λlo1 H1=>bI lo1 H1 K:=by
 cases I with
 | @mk b ws ex be F hx W fr=>
 subst ex
 have bl:b<e:=by exact Yc98 xe
 have G:=F.cons "begin" (nv b)
 show bI (upd lo "begin" (nv b)) H K
 revert G
 generalize upd lo "begin" (nv b)=lo1
 intro G
 refine aK (fH (bSh_i (hx _ _ hk) kl bl el (G _ (.int n) ⋯) (G _ (.ref rk) ⋯) (G _ (nv b) ⋯) (G _ (nv e) ⋯) λ{H1} x1=>aP ?_))
 generalize hs:sh3 n ks e b=s
 have G:=G.cons "shown" (.int s)
 revert G
 generalize upd lo1 "shown" (.int s)=lo2
 intro G
 have W1:=W.hx x1
 have hx1:=hx.trans x1
 have WB1:=WB.hx hx1
 refine aK (jZ (bB (aU (G _ (.ref rb) ⋯) (aU (G _ (nv b) ⋯) (at_k WB1.h (WB1.get bl) (by rw[WL.len];exact Yc106 kl el) (bT_i (aP ?_)))))))
 have G:=((G.cons "items" (.int (Wb n ks b).c)).cons "runs" (.int (Wb n ks b).r)).cons "cut" (.ref (rs b))
 revert G
 generalize upd (upd (upd lo2 "items" (.int (Wb n ks b).c)) "runs" (.int (Wb n ks b).r)) "cut" (.ref (rs b))=lo3
 intro G
 have xa:Hx H1 (H1++[MO.list [pV (b,e)]]):=Hx.app _ _
 have xb:Hx H1 (H1++[MO.list [pV (b,e)]]++[MO.list ((eG n (kg ks) b).map pV++[pV (b,e)])]):=xa.trans (Hx.app _ _)
 have W2:=W1.hx xb
 have ne:(H1++[MO.list [pV (b,e)]]).length≠rw:=cG (xa _ _ W1.h)
 have nf:H1[(H1++[MO.list [pV (b,e)]]).length]? =none:=xa.fresh
 refine aK (kC (G _ (.ref rw) ⋯) W1.h (d8 (aL (Evv.bin (.n (G _ (.int (Wb n ks b).c) ⋯)) (.n (G _ (.int s) ⋯)) kZ _ (aL (Evv.bin (.n (G _ (.int (Wb n ks b).r) ⋯)) .k kZ _ (aL (bB (aU (G _ (.ref (rs b)) ⋯) (aBt (d8 (aL (aU (G _ (nv b) ⋯) (aL (aU (G _ (nv e) ⋯) (bW ⟨(show 2<100 by decide),s9 (uH (xa.lst (aX (WB1.hd b bl).1)) (jK _ _) ?_ (bW ⟨(show 3<100 by decide),kD W2.h (by rw[WL.len];exact Yc105 kl el bl) (aP (go.nx ?_))⟩))⟩))))))))))))))))
 ·rw[length_map]
  have:=cl b bl
  show(eG n (kg ks) b).length+1<1000000
  exact Yc44 this
 ·have W3:=W2.push (q:=(H1++[MO.list [pV (b,e)]]).length) (by
   rw[show (Ww n ks e b).l.map pV=(eG n (kg ks) b).map pV++[pV (b,e)] from map_append]
   exact bU _ _) ne
  refine .mk (b:=b+1) Yc103 bl (G.re _ ⋯) ((hx1.trans xb).set hw) (by rw[<-hs];exact W3) λt ht=>?_
  by_cases c:t=b
  ·rw[if_pos c];exact hx1.no nf
  ·rw[if_neg c];exact fr t (Yc83 ht c)
theorem vY(m:Nat)(n0:0<=n)(hk:∀ t,1<=t->t<=m->0<kg ks t):Ww n ks (m+1) (cst n (kg ks) m).2=Wb n ks (m+1)/\ ∀ j,j<=m->j≠(cst n (kg ks) m).2->(Wb n ks (m+1)).c<(Ww n ks (m+1) j).c\/((Wb n ks (m+1)).c=(Ww n ks (m+1) j).c/\(Wb n ks (m+1)).r<(Ww n ks (m+1) j).r):=by
 obtain⟨g1,g2⟩:=aAs n0 m hk
 have c:∀ j,(Ww n ks (m+1) j).c=gst n (kg ks) j m+min n (kg ks (m+1)):=λj=>by
  show itm n (kg ks) j+(min n (kg ks j)+sm (kg ks) (j+1) (m+1-1-j)+min n (kg ks (m+1)))=_
  unfold gst
  rw[add_sub_cancel];exact Yc104
 have cb:(Wb n ks (m+1)).c=min n (kg ks 0)+pc n (kg ks) m+min n (kg ks (m+1)):=rfl
 have lb:eG n (kg ks) (m+1)=eG n (kg ks) (cst n (kg ks) m).2++[((cst n (kg ks) m).2,m+1)]:=by
  rw[<-aEj];rfl
 refine⟨?_,λj hj ne=>?_⟩
 ·have e1:=c (cst n (kg ks) m).2
  rw[g1,<-cb]at e1
  have e2:(Ww n ks (m+1) (cst n (kg ks) m).2).l=(Wb n ks (m+1)).l:=lb.symm
  have e3:(Ww n ks (m+1) (cst n (kg ks) m).2).r=(Wb n ks (m+1)).r:=by
   show((eG n (kg ks) (cst n (kg ks) m).2).length:Int)+1=((eG n (kg ks) (m+1)).length:Nat)
   rw[lb,length_append,length_singleton];exact Yc103
  show Wy.mk (Ww n ks (m+1) (cst n (kg ks) m).2).c (Ww n ks (m+1) (cst n (kg ks) m).2).r (Ww n ks (m+1) (cst n (kg ks) m).2).l=_
  rw[e1,e2,e3]
 ·rw[c,cb]
  rcases g2 j hj ne with h |h
  ·exact .inl (Yc102 h)
  ·refine .inr ⟨by exact Yc101 h,?_⟩
   show((eG n (kg ks) (m+1)).length:Int)<((eG n (kg ks) j).length:Nat)+1
   exact Yc100 h
theorem min_i{m:Nat}{ws:Nat->Nat}(n0:0<=n)(hk:∀ t,1<=t->t<=m->0<kg ks t)(W:WL H rw (m+1) (Ww n ks (m+1)) ws){Q:EK}(q:Q (wE (ws (cst n (kg ks) m).2) (Wb n ks (m+1))) H):vT [.ref rw] H Q:=by
 obtain⟨wb,wo⟩:=vY m n0 hk
 have hw:=mM (n:=n) (k:=kg ks) m
 have ln:=WL.len (cnt:=m+1) (f:=Ww n ks (m+1)) (rs:=ws)
 have dl:∀ t,t<m+1->((List.range (m+1)).map λt=>wD (Ww n ks (m+1) t))[t]? =some (wD (Ww n ks (m+1) t)):=λt ht=>by
  rw[getElem?_map,List.getElem?_range ht];rfl
 refine Lf.mk (p:=(List.range (m+1)).map λt=>wE (ws t) (Ww n ks (m+1) t)) (aX W.h) ⟨(List.range (m+1)).map λt=>wD (Ww n ks (m+1) t),λi j=>(ltD 5 (wD (Ww n ks (m+1) i)) (wD (Ww n ks (m+1) j))).getD false,wE (ws (cst n (kg ks) m).2) (Wb n ks (m+1)),λi hi=>?_,λi j x y hx hy=>?_,by rw[ln];exact Nat.succ_pos _,?_,q⟩
 ·rw[ln]at hi
  exact⟨_,_,W.get hi,dl i hi,wE_rd (W.hd i hi).1⟩
 ·have li:=(List.getElem?_eq_some_iff.mp hx).1
  have lj:=(List.getElem?_eq_some_iff.mp hy).1
  rw[length_map,List.length_range]at li lj
  cases(dl i li).symm.trans hx
  cases(dl j lj).symm.trans hy
  obtain⟨t,h⟩:=xB (Ww n ks (m+1) i) (Ww n ks (m+1) j)
  show _=some ((ltD 5 (wD (Ww n ks (m+1) i)) (wD (Ww n ks (m+1) j))).getD false)
  rw[h.e];rfl
 ·rw[ln,add_sub_cancel,aEp (w:=(cst n (kg ks) m).2) hw λj hj ne=>?_,W.get (Yc90 hw),wb]
  obtain⟨t,h⟩:=xB (Ww n ks (m+1) (cst n (kg ks) m).2) (Ww n ks (m+1) j)
  obtain⟨u,g⟩:=xB (Ww n ks (m+1) j) (Ww n ks (m+1) (cst n (kg ks) m).2)
  show(ltD 5 (wD (Ww n ks (m+1) (cst n (kg ks) m).2)) (wD (Ww n ks (m+1) j))).getD false=true/\(ltD 5 (wD (Ww n ks (m+1) j)) (wD (Ww n ks (m+1) (cst n (kg ks) m).2))).getD false=false
  rw[h.e,g.e]
  have o:=wo j hj ne
  rw[<-wb]at o
  rcases o with o |o
  ·exact⟨h.l o,g.g o⟩
  ·exact⟨h.el o.1 o.2,g.eg o.1.symm o.2⟩
def bO(C:Cx):SF:=(aA (aZ "ways" (d9 esN)) (aA (eY (hV C) (iR (aM cY (esC (eN "end") esN))) (aN "begin") bI) (aA (aS (bZ (eN "best") (aM vT (esC (eN "ways") esN)))) (sK .next))))
def cF(rk rb:Nat)(n:Int):List (Str×V):=[("kept",.ref rk),("n",.int n),("best",.ref rb)]
inductive L5(B:MH)(rk rb:Nat)(n:Int)(ks:List Int)(x:Int)(lo:Lo)(H:MH):Prop
 |mk {e:Nat}{rs:Nat->Nat} (ex:x=(e:Int)) (e1:1<=e) (F:Fs (cF rk rb n) lo) (hx:Hx B H) (W:WL H rb e (Wb n ks) rs):L5 B rk rb n ks x lo H
theorem mK{k:Nat->Int}:∀ m,(eG n k m).length<=m:=λm=>by
 have h:∀ m,(cst n k m).1.length<=m:=λm=>by
  induction m with
  |zero=>exact le_refl _
  |succ m ih=>
   rw[mL]
   cases decide (n+n<k (m+1)) with
   |true=>
    show((cst n k m).1++[_]).length<=m+1
    rw[length_append,length_singleton];exact Yc99 ih
   |false=>exact le_succ_of_le ih
 cases m with
 |zero=>exact le_refl _
 |succ m=>
  have:=h m
  show((cst n k m).1++[_]).length<=m+1
  rw[length_append,length_singleton];exact Yc99 this
theorem aEo(hk:B[rk]? =some (.list (ks.map V.int)))(kl:ks.length<1000)(hb:B[rb]? =none)(n0:0<=n)(kp:∀ t,1<=t->t+1<ks.length->0<kg ks t){x:Int}(xe:x<ks.length)(I:L5 B rk rb n ks x lo H)(go:GoK (L5 B rk rb n ks (x+1)) Q K):aN "end" (.int x) lo H λlo1 H1=>bO C lo1 H1 K:=by
 cases I with
 | @mk e rs ex e1 F hx W=>
 subst ex
 have el:e<ks.length:=by exact Yc98 xe
 have G:=F.cons "end" (nv e)
 show bO C (upd lo "end" (nv e)) H K
 revert G
 generalize upd lo "end" (nv e)=lo1
 intro G
 refine aK (fH (j4 (aP (aK ?_))))
 have G:=G.cons "ways" (.ref H.length)
 have xa:=Hx.app H [MO.list []]
 have q1:=bU H (MO.list [])
 have f1:=aQ H
 revert G xa q1 f1
 generalize upd lo1 "ways" (.ref H.length)=lo2
 generalize H.length=rw
 generalize H++[MO.list []]=H1
 intro G xa q1 f1
 refine jY (iR1_i (z:=(e:Int)) (Yc97 kl el) (.n (G _ (.int e) ⋯)) ⟨_,jO (L4 H rk rb rw e n ks) (e:=(e:Int)) (λ{lo5 H5} I=>?_) (λxe I go=>i_step (hx _ _ hk) kl el f1 W (λt ht=>lt_of_le_of_lt (mK t) (Yc96 kl el ht)) xe I go) (e:Int).toNat 0 Yc95 (.mk (b:=0) (ws:=λ_=>0) rfl (zero_le _) (G.re _ ⋯) xa ⟨q1,λt ht=>absurd ht (Nat.not_lt_zero _)⟩ λt ht=>absurd ht (Nat.not_lt_zero _))⟩)
 cases I with
 | @mk b ws ex be F2 hx2 W2 fr=>
 have:b=e:=by exact Yc86 ex
 subst this
 obtain⟨m,rfl⟩:∃ m,b=m+1:=⟨b-1,by exact Yc85 e1⟩
 have WH:=W.hx hx2
 have wl:=mM (n:=n) (k:=kg ks) m
 refine aP (aK (kC (F2 _ (.ref rb) ⋯) WH.h (cJ (aL (aU (F2 _ (.ref rw) ⋯) (bW (min_i n0 (λt t1 t2=>kp t t1 (Yc93 el t2)) W2 (kD WH.h (by rw[WL.len];exact Yc94 kl el) (aP (go.nx ?_))))))))))
 have hq:=(W2.hd (cst n (kg ks) m).2 (Yc90 wl)).1
 rw[(vY m n0 λt t1 t2=>kp t t1 (Yc93 el t2)).1]at hq
 exact .mk (e:=m+1+1) Yc92 Yc91 (F2.re _ ⋯) ((hx.trans hx2).set hb) (WH.push hq λq=>by
  have:=fr (cst n (kg ks) m).2 (Yc90 wl)
  rw[q,W.h]at this;cases this)
theorem aB4(X:XX C){R:EK}(hk:H[rk]? =some (.list (ks.map V.int)))(kl:ks.length<1000)(k1:1<=ks.length)(n0:0<=n)(kp:∀ t,1<=t->t+1<ks.length->0<kg ks t)(k:∀ {H' r},Hx H H'->H'[r]? =some (.list ((eG n (kg ks) (ks.length-1)).map pV))->R (.ref r) H'):d0 X [.ref rk,.int n] H R:=by
 refine⟨rfl,?_⟩
 have F:Fs [("n",.int n),("kept",.ref rk)] (loB ["kept","n"] [.ref rk,.int n] lo0):=(Fs.cons (l:=[]) nofun "kept" (.ref rk)).cons "n" (.int n)
 show eT X (loB ["kept","n"] [.ref rk,.int n] lo0) H (j3 R)
 revert F
 generalize loB ["kept","n"] [.ref rk,.int n] lo0=lo
 intro F
 refine aK (fH (aBt (d8 (aL (eI (aL (eI (aL (j4 (bW ⟨(show 3<100 by decide),s9 (aP (aK ?_))⟩))))))))))
 have F:=F.cons "best" (.ref (H++[MO.list []]).length)
 have x4:Hx H (H++[MO.list []]++[MO.list [.tup [.int 0,.int 0,.ref H.length]]]):=(Hx.app _ _).trans (.app _ _)
 have q1:(H++[MO.list []]++[MO.list [.tup [.int 0,.int 0,.ref H.length]]])[H.length]? =some (MO.list []):=(Hx.app _ _) _ _ (bU _ _)
 have q2:=bU (H++[MO.list []]) (MO.list [.tup [.int 0,.int 0,.ref H.length]])
 have f2:H[(H++[MO.list []]).length]? =none:=(Hx.app H [MO.list []]).fresh
 have op:H.length≠(H++[MO.list []]).length:=by rw[length_append];exact(succ_ne_self _).symm
 revert F x4 q1 q2 f2 op
 generalize (H++[MO.list []]).length=rb
 generalize H++[MO.list []]++[MO.list [.tup [.int 0,.int 0,.ref H.length]]]=H4
 generalize H.length=r0
 generalize upd lo "best" (.ref rb)=lo2
 intro F x4 q1 q2 f2 op
 show eY (hV C) (iR (aM cY (esC (eK (.int 1)) (esC (aM d5 (esC (eN "kept") esN)) esN)))) (aN "end") (bO C) lo2 H4 _
 have lm:(ks.map V.int).length=ks.length:=length_map ..
 refine jY (iR2_i (a:=1) (c:=(ks.map V.int).length) (Yc89 k1 lm) (Yc88 kl lm) .k (lenN_e (F _ (.ref rk) ⋯) (aX (x4 _ _ hk)) (Yc88 kl lm)) ⟨_,jO (L5 H rk rb n ks) (e:=(((ks.map V.int).length:Nat):Int)) (λ{lo5 H5} I=>?_) (λxe I go=>aEo hk kl f2 n0 kp (by rw[lm]at xe;exact xe) I go) ((ks.map V.int).length-1) ((1:Nat):Int) (Yc87 k1 lm) (.mk (e:=1) (rs:=λ_=>r0) rfl (le_refl _) (F.re _ ⋯) x4 ⟨q2,λt ht=>?_⟩)⟩)
 ·cases I with
  | @mk e rs ex e1 F5 hx W=>
  rw[lm]at ex
  have:e=ks.length:=by exact Yc86 ex
  subst this
  obtain⟨m,hm⟩:∃ m,ks.length=m+1:=⟨ks.length-1,by exact Yc85 e1⟩
  rw[hm,add_sub_cancel]at k
  rw[hm]at W
  have hl:=W.h
  rw[List.range_succ,map_append]at hl
  exact aP (aK (jX (bB (bB (aU (F5 _ (.ref rb) ⋯) (oW (Lp.mk (uX hl) (eI (Lp.mk (v:=.ref (rs m)) (H:=H5) ⋯ (k hx (W.hd m (lt_succ_self _)).1))))))))))
 ·have:t=0:=by exact Yc84 ht
  subst this
  exact⟨q1,op⟩
end
end
section
variable {C:Cx}{H:MH}
structure CG{β:Type}(ob:β->List V)(X:XX C)(H H':MH)(s:Nat)(oc:Option Nat)(W':List Op)(c ai:Nat)(ps:List (Nat×β)):Prop where
 kp:∀ (r:Nat) (m:MO),r≠s->oc≠some r->H[r]? =some m->H'[r]? =some m
 ks:oc≠none->∀ m,H[s]? =some m->H'[s]? =some m
 st:Mst X H' s W' (some c)
 oc:oc=some c\/(oc=none/\H[c]? =none)
 h:H'[ai]? =some (.list (ps.map rv))
 hd:∀ p∈ps,H'[p.1]? =some (.list (ob p.2))/\H[p.1]? =none/\p.1≠ai/\p.1≠c
 nd:(ps.map Prod.fst).Nodup
 ac:ai≠c
structure CGg{β:Type}(ob:β->List V)(X:XX C)(H H':MH)(n:Int)(s:Nat)(oc:Option Nat)(W':List Op)(c ai gi it cd:Nat)(gs:List (List Op))(ps:List (Nat×β)):Prop where
 cg:CG ob X H H' s oc W' c ai ps
 G:GnT n H' gi it cd gs
 ic:it≠cd
 ig:it≠gi
 gc:gi≠cd
 is_:it≠s
 io:it≠c
 go:gi≠c
 gs_:gi≠s
 ag:ai≠gi
 ai_:ai≠it
 acd:ai≠cd
 hn:H[ai]? =none
 hg:H[gi]? =none
 hi:H[it]? =none
 hit:∃ m,H'[it]? =some m
 dg:∀ p∈ps,p.1≠gi/\p.1≠it
section
variable {β:Type}{ob:β->List V}{X:XX C}{H':MH}{n:Int}{s c ai gi it cd:Nat}{oc:Option Nat}{W':List Op}{gs:List (List Op)}{ps:List (Nat×β)}
theorem Mst.ke{W:List Op}(M:Mst X H s W (some c))(k:∀ (r:Nat) (m:MO),r=s\/r=c->H[r]? =some m->H'[r]? =some m):Mst X H' s W (some c):=by
 cases M with
 |kept h hf hc=>exact .kept (k _ _ (.inl rfl) h) hf (k _ _ (.inr rfl) hc)
theorem CG.ke{H2:MH}(S:CGg ob X H H' n s oc W' c ai gi it cd gs ps)(k:Ke H' H2 gi it):CG ob X H H2 s oc W' c ai ps:=by
 have D:=S.cg
 have fr:∀ {r:Nat}{m:MO},H[r]? =some m->r≠gi/\r≠it:=λ{r m} e=>⟨λq=>aG (S.hg.symm.trans (q▸e)),λq=>aG (S.hi.symm.trans (q▸e))⟩
 refine⟨λr m q1 q2 e=>k _ _ (fr e).1 (fr e).2 (D.kp _ _ q1 q2 e),λq m e=>k _ _ S.gs_.symm S.is_.symm (D.ks q m e),D.st.ke λr m q e=>?_,D.oc,k _ _ S.ag S.ai_ D.h,λp hp=>⟨k _ _ (S.dg p hp).1 (S.dg p hp).2 (D.hd p hp).1,(D.hd p hp).2⟩,D.nd,D.ac⟩
 rcases q with rfl |rfl
 ·exact k _ _ S.gs_.symm S.is_.symm e
 ·exact k _ _ S.go.symm S.io.symm e
theorem CGg.put2{H2:MH}{r':Nat}{b:β}{gs2:List (List Op)}(S:CGg ob X H H' n s oc W' c ai gi it cd gs2 ps)(T:CGg ob X H H2 n s oc W' c ai gi it cd gs ps)(h2:H2[r']? =some (.list (ob b)))(f:H'[r']? =none):CGg ob X H (H2.set ai (.list (ps.map rv++[.ref r']))) n s oc W' c ai gi it cd gs (ps++[(r',b)]):=by
 have D:=T.cg
 have as:ai≠s:=λq=>xE D.st.o λff z=>absurd ((q▸D.h).symm.trans z) nofun
 have old:∀ {y:Nat}{m:MO},H'[y]? =some m->r'≠y:=λ{y m} e q=>aG (f.symm.trans (q▸e))
 have gg:∃ m,H'[gi]? =some m:=by
  cases S.G with
  |loop g=>exact⟨_,g⟩
  |last g=>exact⟨_,g⟩
 have ra:r'≠ai:=old S.cg.h
 have rc:r'≠c:=by
  cases S.cg.st with
  |kept h hf hc=>exact old hc
 refine⟨⟨λr m q1 q2 e=>aH (D.kp _ _ q1 q2 e) λq=>aG (S.hn.symm.trans (q▸e)),λq m e=>aH (D.ks q m e) as,D.st.ke λr m q e=>aH e ?_,D.oc,?_,λp hp=>?_,?_,D.ac⟩,T.G.to λr m q e=>aH e ?_,S.ic,S.ig,S.gc,S.is_,S.io,S.go,S.gs_,S.ag,S.ai_,S.acd,S.hn,S.hg,S.hi,T.hit.imp λ_ e=>aH e S.ai_,λp hp=>?_⟩
 ·rcases q with rfl |rfl
  ·exact as
  ·exact D.ac
 ·rw[map_append];exact aJ D.h _
 ·rcases mem_append.mp hp with hp |hp
  ·have:=D.hd p hp
   exact⟨aH this.1 this.2.2.1.symm,this.2⟩
  ·rw[mem_singleton.mp hp]
   refine⟨aH h2 ra.symm,?_,ra,rc⟩
   cases z:H[r']? with
   |none=>rfl
   |some m=>
    by_cases q1:r'=s
    ·exact xE S.cg.st.o λff e=>absurd q1 (old e)
    ·by_cases q2:oc=some r'
     ·rcases S.cg.oc with q3 |q3
      ·exact absurd (Option.some.inj (q2.symm.trans q3)) rc
      ·rw[q3.1]at q2;cases q2
     ·exact aG (f.symm.trans (S.cg.kp _ _ q1 q2 z))
 ·rw[map_append,List.nodup_append]
  refine⟨D.nd,List.pairwise_singleton _ _,λa ha b hb e=>?_⟩
  refine xEA (mem_map.mp ha) λd hd e2=>?_
  rw[mem_singleton.mp hb,<-e2]at e
  exact old (S.cg.hd d hd).1 e.symm
 ·rcases q with rfl |rfl |rfl
  ·exact S.ag
  ·exact S.ai_
  ·exact S.acd
 ·rcases mem_append.mp hp with hp |hp
  ·exact S.dg p hp
  ·rw[mem_singleton.mp hp]
   exact⟨xE gg λm e=>old e,xE S.hit λm e=>old e⟩
end
def oG(g:List Op):List V:=g.map Op.v
theorem lg_run(X:XX C){s c ai gi it cd:Nat}{oc:Option Nat}{n:Int}{W':List Op}{P:MH->Prop}{all:List (List Op)}(al:all.length<10000)(k:∀ {H3 ps'},CG oG X H H3 s oc W' c ai ps'->ps'.map Prod.snd=all->P H3):∀ (gs:List (List Op)){done:List (List Op)}{ps:List (Nat×List Op)}{H':MH},CGg oG X H H' n s oc W' c ai gi it cd gs ps->done++gs=all->ps.map Prod.snd=done->eU (l7 X.gc 6 X.gv) ai (gs.length+1) gi H' P:=λgs=>by
 induction gs with
 |nil=>
  intro done ps H' S ea ed
  exact rU X S.G S.ic S.ig S.gc (λ{H2} _ k2=>k (CG.ke S k2) (by rw[ed,<-ea,append_nil])) λ{H2 r g gs'} e=>nomatch e
 |cons g0 gs ih=>
  intro done ps H' S ea ed
  refine rU X S.G S.ic S.ig S.gc (λ{H2} e _=>nomatch e) λ{H2 r g gs'} e k2 hr fr G2 hm=>?_
  cases e
  have S2:CGg oG X H H2 n s oc W' c ai gi it cd gs ps:=⟨CG.ke S k2,G2,S.ic,S.ig,S.gc,S.is_,S.io,S.go,S.gs_,S.ag,S.ai_,S.acd,S.hn,S.hg,S.hi,hm,S.dg⟩
  refine Lf.mk (f8 S2.cg.h) ⟨?_,ih (done:=done++[g0]) (S.put2 (b:=g0) S2 hr fr) (by rw[append_assoc];exact ea) (by rw[map_append,ed];rfl)⟩
  rw[length_map]
  have e1:=congrArg List.length ed
  have e2:=congrArg List.length ea
  rw[length_map]at e1
  rw[length_append,length_cons]at e2
  exact Yc0 al e1 e2
theorem zQ(X:XX C){s:Nat}{W:List Op}{oc:Option Nat}{n:Int}{Q:EK}(M:Mst X H s W oc)(ll:W.length<=200)(gl:(groups n W).length<10000)(k:∀ {H' c ai ps},CG oG X H H' s oc (gD n W) c ai ps->ps.map Prod.snd=groups n W->H[ai]? =none->Q (.ref ai) H'):kB (l7 X.gc 6 λL=>X.gv L) (λi=>i) [.ref H.length] (H++[MO.gen (.fresh (loB ["self","n"] [.ref s,.int n] lo0))]) Q:=by
 have g:=u7 (bU H (.gen (.fresh (loB ["self","n"] [.ref s,.int n] lo0))))
 have e:isG (H++[MO.gen (.fresh (loB ["self","n"] [.ref s,.int n] lo0))]) [.ref H.length]=some H.length:=by
  show((H++[MO.gen (.fresh (loB ["self","n"] [.ref s,.int n] lo0))])[H.length]?.bind MO.gn).map _=_
  rw[g];rfl
 unfold kB
 rw[e]
 clear e g
 have hg:((H++[MO.gen (.fresh (loB ["self","n"] [.ref s,.int n] lo0))])++[MO.list []])[H.length]? =some (.gen (.fresh (loB ["self","n"] [.ref s,.int n] lo0))):=Hx.app _ _ _ _ (bU H (MO.gen (.fresh (loB ["self","n"] [.ref s,.int n] lo0))))
 have ha:=bU (H++[MO.gen (.fresh (loB ["self","n"] [.ref s,.int n] lo0))]) (MO.list [])
 have x1:Hx H ((H++[MO.gen (.fresh (loB ["self","n"] [.ref s,.int n] lo0))])++[MO.list []]):=(Hx.app _ _).trans (.app _ _)
 have hn:H[(H++[MO.gen (.fresh (loB ["self","n"] [.ref s,.int n] lo0))]).length]? =none:=(Hx.app H [MO.gen (.fresh (loB ["self","n"] [.ref s,.int n] lo0))]).fresh
 have hgn:=aQ H
 have ag:(H++[MO.gen (.fresh (loB ["self","n"] [.ref s,.int n] lo0))]).length≠H.length:=by rw[length_append];exact succ_ne_self _
 show ∃ N,eU (l7 X.gc 6 X.gv) (H++[MO.gen (.fresh (loB ["self","n"] [.ref s,.int n] lo0))]).length N H.length ((H++[MO.gen (.fresh (loB ["self","n"] [.ref s,.int n] lo0))])++[MO.list []]) λH'=>Q (.ref (H++[MO.gen (.fresh (loB ["self","n"] [.ref s,.int n] lo0))]).length) H'
 revert hg ha x1 hn hgn ag
 generalize (H++[MO.gen (.fresh (loB ["self","n"] [.ref s,.int n] lo0))])++[MO.list []]=H1
 generalize (H++[MO.gen (.fresh (loB ["self","n"] [.ref s,.int n] lo0))]).length=ai
 generalize H.length=gi
 intro hg ha x1 hn hgn ag
 have as:ai≠s:=λq=>xE M.o λff z=>aG (hn.symm.trans (q▸z))
 have gs_:gi≠s:=λq=>xE M.o λff z=>aG (hgn.symm.trans (q▸z))
 have ao:oc≠some ai:=λq=>by
  cases M with
  |fresh=>cases q
  |kept h hf hc=>cases q;exact aG (hn.symm.trans hc)
 have D:∀ {H':MH}{c it cd:Nat},G1 X H1 H' gi s oc (gD n W) c it cd->CG oG X H H' s oc (gD n W) c ai ([]:List (Nat×List Op)):=λ{H' c it cd} G=>by
  have oc':oc=some c\/(oc=none/\H[c]? =none):=G.oc.imp id λq=>⟨q.1,x1.no q.2⟩
  have ac:ai≠c:=by
   rcases G.oc with q |q
   ·exact λz=>ao (z▸q)
   ·exact λz=>aG (q.2.symm.trans (z▸ha))
  exact⟨λr m q1 q2 e=>G.kp _ _ (λq=>aG (hgn.symm.trans (q▸e))) q1 q2 (x1 _ _ e),λq m e=>G.ks q m (x1 _ _ e),G.st,oc',G.kp _ _ ag as ao ha,λp hp=>absurd hp not_mem_nil,List.nodup_nil,ac⟩
 refine⟨(groups n W).length+1,wX X (M.hx x1) ll hg (λ{H' c it cd} e G=>k (D G) (by rw[e];rfl) hn) λ{H' r g gs c it cd} e G hr fr G2 hm nn=>?_⟩
 have d:=D G
 have acd:ai≠cd:=by
  rcases G.cdn with q |q
  ·rw[q];exact d.ac
  ·exact λz=>aG (q.symm.trans (z▸ha))
 have ait:ai≠it:=λz=>aG (G.itn.symm.trans (z▸ha))
 have ra:r≠ai:=λz=>aG (fr.symm.trans (z▸ha))
 have rg:r≠gi:=λz=>aG (fr.symm.trans (z▸hg))
 rw[e]at k gl
 rw[e]
 refine Lf.mk (f8 d.h) ⟨by decide,?_⟩
 refine lg_run X (n:=n) gl (λ{H3 ps'} c e=>k c e hn) gs (done:=[g]) (ps:=[(r,g)]) ⟨⟨λy m q1 q2 e=>aH (d.kp _ _ q1 q2 e) λq=>aG (hn.symm.trans (q▸e)),λq m e=>aH (d.ks q m e) as,d.st.ke λy m q e=>aH e ?_,d.oc,aJ d.h _,λp hp=>?_,List.pairwise_singleton _ _,d.ac⟩,G2.to λy m q e=>aH e ?_,G.ic,G.ig,G.gc,G.is_,G.io,G.go,gs_,ag,ait,acd,hn,hgn,x1.no G.itn,hm.imp λ_ z=>aH z ait,λp hp=>?_⟩ rfl rfl
 ·rcases q with rfl |rfl
  ·exact as
  ·exact d.ac
 ·rw[mem_singleton.mp hp]
  exact⟨aH hr ra.symm,x1.no fr,ra,nn.1⟩
 ·rcases q with rfl |rfl |rfl
  ·exact ag
  ·exact ait
  ·exact acd
 ·rw[mem_singleton.mp hp]
  exact⟨rg,nn.2⟩
end
section
variable {C:Cx}{H B:MH}{K Q:SK}{lo:Lo}
theorem law_0(X:XX C){rs:Nat}{sc:List Int}(hs:lo "script" =some (.ref rs))(h:LI H rs sc)(hl:sc.length<=63)(k:∀ {H' r}{ns:List Int},Hx H H'->LI H' r ns->ns.length<=63->K .next (upd lo "numbers" (.ref r)) H'):vF X lo H K:=by
 have lm:(sc.map V.int).length=sc.length:=length_map ..
 refine fH (vK (mT (bB (zU hs h (by rw[lm];exact Yc122 hl) (eI (Lp.mk gt_e (Lf.mk (p:=decide (((sc.map V.int).length:Int)>3)) rfl ?_)))))))
 by_cases c:((sc.map V.int).length:Int)>3
 ·rw[decide_eq_true c]
  exact bX (aU hs (k (.refl _) h hl))
 ·rw[decide_eq_false c]
  refine bR (kch (B:=Lf (lo "script") λa=>Lp (mkL ([3,36,12,21,30,39,37,3].map V.int) H) λv H1=>Lp (aI a v H1) λv H2=>K .next (upd lo "numbers" v) H2) ⋯ (Lf.mk hs (Lp.mk (v:=.ref H.length) (H:=H++[.list ([3,36,12,21,30,39,37,3].map V.int)]) (by unfold mkL;exact if_pos (show 8<1000000 by decide)) (uH ((Hx.app _ _).lst h) (jK _ _) (by rw[lm];show sc.length+8<1000000;exact Yc121 lm c) (k (ns:=sc++[3,36,12,21,30,39,37,3]) ((Hx.app _ _).trans (.app _ _)) (by unfold LI;rw[map_append];exact jK _ _) ?_)))))
  rw[length_append];show sc.length+8<=63;exact Yc120 lm c
def tFs:AF:=b3 2 (asC (aN "first") (asC (aN "second") asN))
def tCk:AF:=b3 2 (asC (aN "changes") (asC (aN "kept") asN))
theorem tFs_i{x y:V}{R:Lo->MH->Prop}(q:R (upd (upd lo "first" x) "second" y) H):tFs (.tup [x,y]) lo H R:=kch (B:=(2=2/\R (upd (upd lo "first" x) "second" y) H)) ⋯ ⟨rfl,q⟩
theorem tCk_i{x y:V}{R:Lo->MH->Prop}(q:R (upd (upd lo "changes" x) "kept" y) H):tCk (.tup [x,y]) lo H R:=kch (B:=(2=2/\R (upd (upd lo "changes" x) "kept" y) H)) ⋯ ⟨rfl,q⟩
theorem law_1(X:XX C){rn:Nat}{ns:List Int}(hn:lo "numbers" =some (.ref rn))(h:LI H rn ns)(nl:ns.length<=63)(k:∀ {H' r1 r2}{O P:List Int},Hx H H'->LI H' r1 O->LI H' r2 P->O.length<=63->P.length<=63->K .next (upd (upd lo "first" (.ref r1)) "second" (.ref r2)) H'):vE X lo H K:=jZ (cJ (aL (aU hn (bW (zP X h (Yc119 nl) λ{H' r1 r2 O P} x h1 h2 l1 l2=>show tFs _ lo H' _ from tFs_i (k x (aX h1) (aX h2) (Yc118 nl l1) (Yc118 nl l2)))))))
structure PL(a b:List Int)(k0:Int)(L:List (Cg×Int)):Prop where
 k00:0<=k0
 lc:LC k0 k0 L
 op:Ops a b (eq0 0 0 k0++eV L)
 ll:L.length<=200
 kb:∀ x∈ksL k0 L,x<=100000
theorem NA.kb{a b:List Int}{f:Bool}{i j:Int}{l:List T3}(h:NA a b f i j l):∀ t∈l,0<=t.k/\t.k<=a.length:=by
 induction h with
 |nil=>exact λt h=>absurd h not_mem_nil
 |cons hi hj st B h ih=>
  intro t ht
  rcases mem_cons.mp ht with rfl |ht
  ·have:=B.p
   have i0:0<=t.i:=B.n.i0
   have i1:t.i+t.k<=a.length:=B.n.i1
   exact⟨by exact Yc117 this,by exact Yc116 i0 i1⟩
  ·exact ih t ht
theorem pts_kb{N:Nat}:∀ {q:List T3}{i j k:Int},(∀ t∈q,0<=t.k/\t.k<=N)->0<=k->(pts i j k q).1<=k+N*q.length/\∀ x∈(pts i j k q).2,x.2<=N*q.length:=λ{q}=>by
 induction q with
 |nil=>intro i j k h k0;exact⟨by show k<=k+(N:Int)*0;omega,λx h=>absurd h not_mem_nil⟩
 |cons t q ih=>
  intro i j k h k0
  have ht:=h t mem_cons_self
  have e:(N:Int)*((t::q).length:Nat)=N*q.length+N:=by rw[length_cons,Int.natCast_add,mul_add];omega
  have p0:0<=(N:Int)*q.length:=Int.mul_nonneg (natCast_nonneg _) (natCast_nonneg _)
  by_cases st:i<t.i\/j<t.j
  ·rw[jF st,e]
   obtain⟨h1,h2⟩:=ih (i:=t.i+t.k) (j:=t.j+t.k) (k:=t.k) (λx hx=>h x (mem_cons_of_mem _ hx)) ht.1
   refine⟨by show k<=_;exact Yc115 p0,λx hx=>?_⟩
   rcases mem_cons.mp hx with rfl |hx
   ·show(pts _ _ _ q).1<=_;exact Yc114 ht h1
   ·have:=h2 x hx;exact Yc111 this
  ·rw[oP st,e]
   obtain⟨h1,h2⟩:=ih (i:=t.i+t.k) (j:=t.j+t.k) (k:=k+t.k) (λx hx=>h x (mem_cons_of_mem _ hx)) (Yc113 k0 ht)
   exact⟨by exact Yc112 ht h1,λx hx=>by have:=h2 x hx;exact Yc111 this⟩
theorem PL.of{a b:List Int}{bl:List T3}(h:Blocks a b bl)(al:a.length<=63)(bn:bl.length<=200):PL a b (pts 0 0 0 bl).1 (pts 0 0 0 bl).2:=by
 obtain⟨k0,L,e,h0,ho,lc,ll⟩:=pts_0 h
 have kb:∀ t∈bl,0<=t.k/\t.k<=(63:Nat):=by
  obtain⟨r,h1,rfl⟩:=h
  intro t ht
  rcases mem_append.mp ht with ht |ht
  ·have:=(zC h1.sorted.2).kb t ht;exact Yc110 al this
  ·rw[mem_singleton.mp ht]
   exact⟨Int.le_refl _,by show(0:Int)<=63;decide⟩
 obtain⟨b1,b2⟩:=pts_kb (i:=0) (j:=0) (k:=0) kb (Int.le_refl _)
 rw[e]at b1 b2 ⊢
 refine⟨h0,lc,⟨bl,h,ho.symm⟩,by show L.length<=_;exact Yc109 bn ll,λx hx=>?_⟩
 have c:((63:Nat):Int)*(bl.length:Nat)<=63*200:=by omega
 rcases mem_cons.mp hx with hx |hx
 ·rw[hx]
  have:k0<=0+((63:Nat):Int)*(bl.length:Nat):=b1
  exact Yc108 c this
 ·obtain⟨y,hy,rfl⟩:=mem_map.mp hx
  have:=b2 y hy;exact Yc107 c this
end
section
variable {C:Cx}{H B:MH}{K Q:SK}{lo:Lo}
section
variable {r1 r2 s rc rk:Nat}{a b:List Int}{n k0:Int}{L:List (Cg×Int)}
theorem law_2(X:XX C)(g1:lo "first" =some (.ref r1))(g2:lo "second" =some (.ref r2))(h1:LI H r1 a)(h2:LI H r2 b)(al:a.length<=63)(bl:b.length<=63)(k:∀ {H' rc rk k0 L},PL a b k0 L->Hx H H'->H'[rc]? =some (.list ((L.map Prod.fst).map Cg.v))->H'[rk]? =some (.list ((ksL k0 L).map V.int))->K .next (upd (upd lo "changes" (.ref rc)) "kept" (.ref rk)) H'):vD X lo H K:=by
 refine jZ (cJ (aL (show eF (aT X) (aM X.c_SM4 (esC (eK .none) (esC (eN "first") (esC (eN "second") (esC (eK (.bool false)) esN))))) esN lo H _ from ?_)))
 refine cJ (aL (eI (aL (aU g1 (aL (aU g2 (aL (eI (bW (vZ X h1 h2 (vX al) (vX bl) λ{H1 rd rj rp m f} x1 S _=>Lf.mk (p:=H.length) rfl ⟨⟨_,S.o⟩,bW ?_⟩))))))))))
 refine aAy X S ⋯ (Yc134 al) (λr h=>h.okSort (by have:=h.len;exact Yc133 al this)) λ{H2 rb bl'} e2 rn rs hs hb hB=>?_
 have x2:Hx H H2:=e2.hx x1 (aQ H)
 have bn:bl'.length<=200:=by
  obtain⟨r,q1,q2⟩:=hB
  have:=jH (isort T3.i r) ⟨0,0,0⟩
  rw[(b7 T3.i r).length_eq]at this
  have:=q1.len
  rw[q2,length_append,length_singleton];omega
 have P:=PL.of hB al bn
 refine bW (yT X hb (Yc136 bn) (by have:=P.ll;exact Yc136 this) λ{H3 rc rk} x3 q1 q2=>show tCk _ lo H3 _ from tCk_i (k P (x2.trans x3) q1 q2))
theorem law_3(X:XX C)(g1:lo "first" =some (.ref r1))(g2:lo "second" =some (.ref r2))(h1:LI H r1 a)(h2:LI H r2 b)(al:a.length<=63)(bl:b.length<=63)(P:PL a b k0 L)(k:∀ {H'},Hx H H'->Mst X H' H.length (eq0 0 0 k0++eV L) none->K .next (upd lo "matcher" (.ref H.length)) H'):vC X lo H K:=fH (cJ (aL (eI (aL (aU g1 (aL (aU g2 (aL (eI (bW (vZ X h1 h2 (vX al) (vX bl) λ{H1 rd rj rp m f} x1 S _=>k x1 (.fresh S ⋯ ⋯ (Yc134 al) (λr h=>by have:=h.len;exact Yc133 al this) λl O=>O.uniq P.op))))))))))))
theorem aA7{tgt:AF}{body:SF}{e:Int}{Q:SK}(Inv:Int->Lo->MH->Prop)(he:∀ {lo H},Inv e lo H->Q .next lo H)(hs:∀ {x lo H K},e<x->Inv x lo H->GoK (Inv (x+ -1)) Q K->tgt (.int x) lo H λlo1 H1=>body lo1 H1 K):∀ (n:Nat) (x:Int){lo:Lo}{H:MH},x-n=e->Inv x lo H->cN (hV C) tgt body (n+1) (x,n,-1) lo H Q:=λn=>by
 induction n with
 |zero=>
  intro x lo H hd h
  have:x=e:=by exact Yc132 hd
  subst this
  exact he h
 |succ n ih=>
  intro x lo H hd h
  exact hs (Yc131 hd) h (.loop λh'=>ih (x+ -1) (Yc130 hd) h')
theorem rng3_i{a b:Int}{Q:EK}(q:Q (.rng a b (-1)) H):cY [.int a,.int b,.int (-1)] H Q:=kch (B:=Q (.rng a b (-1)) H) ⋯ q
def tldE(X:XX C):EF:=(eIf (tE (aB (bG id) (eN "n") (eK (.int 3)))) (eF (bS X) (eN "matcher") esN) (eF (bY X) (eN "matcher") (esC (eN "n") esN)))
theorem tld_nf(X:XX C):aZ "told" (tldE X) lo H K=(Lf (lo "n") λm=>Lp (bG id m (.int 3) H) λv H1=>Lf (tr v H1) λt=>bif t then(Lf (lo "matcher") λmm=>Lf mm.rf λi=>(∃ ff,H1[i]? =some (.inst ff))/\bS X [.ref i] H1 λw H3=>K .next (upd lo "told" w) H3) else (Lf (lo "matcher") λmm=>Lf mm.rf λi=>(∃ ff,H1[i]? =some (.inst ff))/\Lf (lo "n") λm=>bY X [.ref i,m] H1 λw H3=>K .next (upd lo "told" w) H3)):=by rfl'
theorem tld_i(X:XX C)(gm:lo "matcher" =some (.ref s))(gn:lo "n" =some (.int n))(o:∃ ff,H[s]? =some (.inst ff))(k:K .next (upd lo "told" (.ref H.length)) (H++[MO.gen (.fresh (loB ["self","n"] [.ref s,.int n] lo0))])):aZ "told" (tldE X) lo H K:=by
 refine kch (tld_nf X) (Lf.mk gn (Lp.mk vH (Lf.mk (p:=decide (n=3)) rfl ?_)))
 by_cases c:n=3
 ·rw[decide_eq_true c]
  refine bX (Lf.mk gm (Lf.mk (p:=s) rfl ⟨o,rfl,?_⟩))
  rw[c]at k
  exact k
 ·rw[decide_eq_false c]
  refine bR (Lf.mk gm (Lf.mk (p:=s) rfl ⟨o,?_⟩))
  rw[gn]
  exact⟨rfl,k⟩
def yF(s rc rk:Nat):List (Str×V):=[("matcher",.ref s),("changes",.ref rc),("kept",.ref rk)]
def dueE(X:XX C):EF:=(mJ (cU C) [".0","begin","end"] (iL (aM (d0 X) (esC (eN "kept") (esC (eN "n") esN)))) (t5 2 (asC (aN "begin") (asC (aN "end") asN))) (tK true) (kY (aM (dF X) (esC (eN "changes") (esC (eN "kept") (esC (eN "n") (esC (eN "begin") (esC (eN "end") esN))))))))
theorem aBy{k:Nat->Int}:∀ m,∀ p∈eG n k m,p.1<p.2/\p.2<=m:=λm=>by
 have h:∀ m,∀ p∈(cst n k m).1,p.1<p.2/\p.2<=m:=λm=>by
  induction m with
  |zero=>exact λp h=>absurd h not_mem_nil
  |succ m ih=>
   rw[mL]
   cases decide (n+n<k (m+1)) with
   |true=>
    intro p hp
    rcases mem_append.mp (show p∈(cst n k m).1++[((cst n k m).2,m+1)] from hp) with hp |hp
    ·have:=ih p hp;exact aCj this
    ·rw[mem_singleton.mp hp]
     have:=mM (n:=n) (k:=k) m
     exact⟨by show(cst n k m).2<m+1;exact Yc90 this,le_refl _⟩
   |false=>exact λp hp=>by have:=ih p hp;exact aCj this
 cases m with
 |zero=>exact λp h=>absurd h not_mem_nil
 |succ m=>
  intro p hp
  rcases mem_append.mp (show p∈(cst n k m).1++[((cst n k m).2,m+1)] from hp) with hp |hp
  ·have:=h m p hp;exact aCj this
  ·rw[mem_singleton.mp hp]
   have:=mM (n:=n) (k:=k) m
   exact⟨by show(cst n k m).2<m+1;exact Yc90 this,le_refl _⟩
theorem LC.pos{i j:Int}{L:List (Cg×Int)}(h:LC i j L):∀ {u:Nat}{x:Cg×Int},L[u]? =some x->u+1<L.length->0<x.2:=by
 induction h with
 |nil=>intro u x e;cases e
 | @cons c k l hi hj st k0 kp h ih=>
  intro u x e ul
  cases u with
  |zero=>
   cases e
   refine kp λq=>?_
   subst q
   exact absurd ul (Nat.lt_irrefl _)
  |succ u=>exact ih e (Nat.lt_of_succ_lt_succ ul)
theorem PL.pos(P:PL a b k0 L):∀ t,1<=t->t+1<(ksL k0 L).length->0<kg (ksL k0 L) t:=by
 intro t t1 tl
 rw[pJ]at tl
 obtain⟨u,rfl⟩:∃ u,t=u+1:=⟨t-1,by exact Yc85 t1⟩
 have ul:u<L.length:=by exact Yc128 tl
 have:=P.lc.pos (getElem?_eq_getElem ul) (Yc127 tl)
 show 0<(k0::L.map Prod.snd).getD (u+1) 0
 rw[List.getD_cons_succ,getD_eq_getElem?_getD,getElem?_map,getElem?_eq_getElem ul]
 exact this
theorem due_i(X:XX C){R:EK}(P:PL a b k0 L)(F:Fs (("n",.int n)::yF s rc rk) lo)(n0:0<=n)(h1:H[rc]? =some (.list ((L.map Prod.fst).map Cg.v)))(h2:H[rk]? =some (.list ((ksL k0 L).map V.int)))(k:∀ {H' r}{ps:List (Nat×List Op)},Hx H H'->H'[r]? =some (.list (ps.map rv))->HB oG H' ps->ps.map Prod.snd=groups n (eq0 0 0 k0++eV L)->H[r]? =none->(∀ p∈ps,H[p.1]? =none)->R (.ref r) H'):dueE X lo H R:=by
 have ll:=P.ll
 have kl:=pJ (k0:=k0) (L:=L)
 refine cJ (aL (aU (F _ (.ref rk) ⋯) (aL (aU (F _ (.int n) ⋯) (bW (aB4 X h2 (Yc126 ll kl) (Yc125 kl) n0 P.pos λ{H1 q} x1 hq=>Lf.mk (p:=q) rfl ⟨⟨_,aX hq⟩,?_⟩))))))
 rw[kl,add_sub_cancel]at hq
 have cl:=mK (n:=n) (k:=kg (ksL k0 L)) L.length
 refine aB0 (K:=cU C) (hid:=[".0","begin","end"]) (fi:=λ_ H Q=>Q (q,0) H) (tgt:=t5 2 (asC (aN "begin") (asC (aN "end") asN))) (t:=tK true) (E:=(aM (dF X) (esC (eN "changes") (esC (eN "kept") (esC (eN "n") (esC (eN "begin") (esC (eN "end") esN))))))) (it:=(q,0)) oG pV (λp=>shw n (kf k0 L) (cf L) p.1 p.2) (Fs [("changes",.ref rc),("kept",.ref rk),("n",.int n)]) (eG n (kg (ksL k0 L)) L.length) (Yc124 ll cl) (λq=>q) (rP (aX hq) _ 0 rfl) ((F.re [("changes",.ref rc),("kept",.ref rk),("n",.int n)] ⋯).hide ⋯) (λp hp {lo1 H2 P'} i x2 kk=>?_) λ{H' ps} x h hb e f=>k (x1.trans x) h hb (by rw[e];exact(u6 n0 P.k00 P.lc).symm) (x1.no (aQ H1)) λp hp=>x1.no (f p hp)
 have pm:=aBy L.length p hp
 refine kch (B:=(2=2/\kY (aM (dF X) (esC (eN "changes") (esC (eN "kept") (esC (eN "n") (esC (eN "begin") (esC (eN "end") esN)))))) H1.length (upd (upd lo1 "begin" (.int p.1)) "end" (.int p.2)) H2 P')) ⋯ ⟨rfl,?_⟩
 have G:=(i.cons "begin" (.int p.1)).cons "end" (.int p.2)
 revert G
 generalize upd (upd lo1 "begin" (.int p.1)) "end" (.int p.2)=lo2
 intro G
 refine cJ (aL (aU (G _ (.ref rc) ⋯) (aL (aU (G _ (.ref rk) ⋯) (aL (aU (G _ (.int n) ⋯) (aL (aU (G _ (.int p.1) ⋯) (aL (aU (G _ (.int p.2) ⋯) (bW ?_)))))))))))
 exact xZ X ((x1.trans x2) _ _ h1) ((x1.trans x2) _ _ h2) pm.1 pm.2 (Yc123 ll) λ{H3 r3} x3 h3 f3=>kk (G.re _ ⋯) x3 h3 f3
end
end
section
variable {C:Cx}{H B:MH}{K Q:SK}{lo:Lo}
theorem gl_rd{ps:List (Nat×List Op)}(hg:∀ p∈ps,H[p.1]? =some (.list (oG p.2))):∀ p∈ps,rd H 7 (rv p)=some (dG p):=λp hp=>lG (n:=6) Op.v dO (aX (hg p hp)) λo _=>dO_rd6 o
theorem same_i{r1 r2:Nat}{ps gl:List (Nat×List Op)}(h1:H[r1]? =some (.list (ps.map rv)))(g1:∀ p∈ps,H[p.1]? =some (.list (oG p.2)))(h2:H[r2]? =some (.list (gl.map rv)))(g2:∀ p∈gl,H[p.1]? =some (.list (oG p.2)))(e:ps.map Prod.snd=gl.map Prod.snd):eqv H (.ref r1) (.ref r2)=some true:=by
 have E:∀ l:List (Nat×List Op),l.map dG=(l.map Prod.snd).map λw=>PyData.list (w.map dO):=λl=>by rw[List.map_map];rfl
 have e2:ps.map dG=gl.map dG:=by rw[E,E,e]
 have q1:=lG (n:=7) rv dG (aX h1) (gl_rd g1)
 rw[e2]at q1
 exact aBm q1 (lG (n:=7) rv dG (aX h2) (gl_rd g2)) (nQ λp _=>dG_ok p)
section
variable {s rc rk:Nat}{a b:List Int}{k0:Int}{L:List (Cg×Int)}
inductive L6(X:XX C)(B:MH)(s rc rk:Nat)(l:List Op)(x:Int)(lo:Lo)(H:MH):Prop
 |mk {W:List Op}{oc:Option Nat} (F:Fs (yF s rc rk) lo) (hx:Hx B H) (M:Mst X H s W oc) (bo:∀ c,oc=some c->B[c]? =none) (g:∀ n,0<=n->n<=x->groups n W=groups n l/\gD n W=gD n l) (wl:W.length<=200):L6 X B s rc rk l x lo H
def yB(X:XX C):SF:=(aA (aZ "due" (dueE X)) (aA (aZ "told" (tldE X)) (aA (sIf (tE (aB (bG not) (aM (kB (l7 X.gc 6 X.gv) (λi=>i)) (esC (eN "told") esN)) (eN "due"))) (aA (f7 (eK (.bool false))) (sK .next)) (sK .next)) (sK .next))))
theorem y_step(X:XX C)(P:PL a b k0 L)(hs:B[s]? =none)(h1:B[rc]? =some (.list ((L.map Prod.fst).map Cg.v)))(h2:B[rk]? =some (.list ((ksL k0 L).map V.int)))(v:∀ o,eq0 0 0 k0++eV L= [o]->o.i1<=o.i2/\o.j1<=o.j2){x:Int} (x0: -1<x) (I:L6 X B s rc rk (eq0 0 0 k0++eV L) x lo H) (go:GoK (L6 X B s rc rk (eq0 0 0 k0++eV L) (x+ -1)) Q K):aN "n" (.int x) lo H λlo1 H1=>yB X lo1 H1 K:=by
 cases I with
 | @mk W oc F hx M bo g wl=>
 have gx:=g x (aCi x0) (Int.le_refl _)
 have G:=F.cons "n" (.int x)
 show yB X (upd lo "n" (.int x)) H K
 revert G
 generalize upd lo "n" (.int x)=lo1
 intro G
 refine aK (fH (due_i X P G (aCi x0) (hx _ _ h1) (hx _ _ h2) λ{H1 rd ps} x1 hd hb e fr fp=>aP (aK ?_)))
 have G:=G.cons "due" (.ref rd)
 revert G
 generalize upd lo1 "due" (.ref rd)=lo2
 intro G
 have M1:=M.hx x1
 refine tld_i X (G _ (.ref s) ⋯) (G _ (.int x) ⋯) M1.o (aP (aK (ret_no ?_)))
 have G:=G.cons "told" (.ref H1.length)
 revert G
 generalize upd lo2 "told" (.ref H1.length)=lo3
 intro G
 have hx1:=hx.trans x1
 refine cJ (aL (aU (G _ (.ref H1.length) ⋯) (bW (zQ X M1 wl (by rw[gx.1,u6 (aCi x0) P.k00 P.lc,length_map];have:=mK (n:=x) (k:=kf k0 L) L.length;have:=P.ll;omega) λ{H2 c ai ps2} D e2 hai=>?_))))
 have so:∀ r m,H[r]? =none->H1[r]? =some m->H2[r]? =some m:=λr m h0 h=>D.kp r m (λq=>by
  obtain⟨ff,z⟩:=M.o
  rw[q,z]at h0;cases h0) (λq=>by
  cases M with
  |fresh=>cases q
  |kept hM hf hc=>cases q;rw[hc]at h0;cases h0) h
 refine aU (G _ (.ref rd) ⋯) (no_i (same_i D.h (λp hp=>(D.hd p hp).1) (so _ _ fr hd) (λp hp=>so _ _ (fp p hp) (hb p hp)) ?_) ?_)
 ·rw[e2,e,gx.1]
 ·refine aP (go.nx (.mk (W:=gD x W) (oc:=some c) (G.re _ ⋯) (λr m h=>D.kp r m (λq=>by rw[q,hs]at h;cases h) (λq=>by rw[bo r q]at h;cases h) (hx1 _ _ h)) D.st (λc' q=>?_) (λn n0 nx=>?_) (by rw[rY];exact wl)))
  ·cases q
   rcases D.oc with q |q
   ·exact bo _ q
   ·exact hx1.no q.2
  ·rw[gx.2]
   exact⟨aAv n0 (Yc144 nx) v,by rw[aA9 n0 (Yc143 n0 nx) v,show min n x=n by exact Yc142 nx]⟩
theorem law_4(X:XX C)(P:PL a b k0 L)(hs:B[s]? =none)(h1:B[rc]? =some (.list ((L.map Prod.fst).map Cg.v)))(h2:B[rk]? =some (.list ((ksL k0 L).map V.int)))(v:∀ o,eq0 0 0 k0++eV L= [o]->o.i1<=o.i2/\o.j1<=o.j2) (F:Fs (yF s rc rk) lo) (hx:Hx B H) (M:Mst X H s (eq0 0 0 k0++eV L) none) (wl:(eq0 0 0 k0++eV L).length<=200) (k:∀ {lo' H'},K .next lo' H'):vB X lo H K:=by
 have kl:=pJ (k0:=k0) (L:=L)
 show eY (hV C) (iR (aM cY (esC (aB aI (aM aB9 (esC (eN "kept") esN)) (eK (.int 1))) (esC (i8 (eK (.int 1))) (esC (i8 (eK (.int 1))) esN))))) (aN "n") (yB X) lo H K
 refine jY (cJ (aL (bB (cJ (aL (aU (F _ (.ref rk) ⋯) (bW (Lf.mk (p:=ksL k0 L) ?_ ⟨by exact Yc141 kl,λMx hM hmax=>eI (Lp.mk (v:=.int (Mx+1)) rfl (aL (oW (aL (oW (bW (rng3_i (Lf.mk (p:=(Mx+1,-1,-1)) rfl ⟨?_,?_⟩))))))))⟩))))))))
 ·show((lst H (.ref rk)).bind iS)=some (ksL k0 L)
  rw[aX (hx _ _ h2)]
  exact mA _
 ·have b1:=P.kb Mx hM
  have b0:0<=Mx:=le_trans P.k00 (hmax k0 mem_cons_self)
  show rOk (Mx+1) (-1) (-1)=true
  unfold rOk
  rewrite [decide_eq_true (show(-1000000:Int)<Mx+1 by exact Yc140 b0),decide_eq_true (show Mx+1<1000000 by exact Yc139 b1)];rfl
 ·have b0:0<=Mx:=le_trans P.k00 (hmax k0 mem_cons_self)
  have e:oO (Mx+1) (-1) (-1)=(Mx+2).toNat:=by
   show((Mx+1)- -1).toNat=_
   rw[show Mx+1- -1=Mx+2 by exact Yc138]
  show ∃ n,cN (hV C) (aN "n") (yB X) n (Mx+1,oO (Mx+1) (-1) (-1),-1) lo H K
  rw[e]
  exact⟨_,aA7 (L6 X B s rc rk (eq0 0 0 k0++eV L)) (e:=-1) (λI=>k) (λx0 I go=>y_step X P hs h1 h2 v x0 I go) _ _ (Yc137 b0) (.mk (W:=eq0 0 0 k0++eV L) (oc:=none) F hx M (λc q=>by cases q) (λn _ _=>⟨rfl,rfl⟩) wl)⟩
end
end
section
variable {C:Cx}
theorem law_ok(X:XX C){H:MH}{rs:Nat}{sc:List Int}{Q:EK}(hl:sc.length<=63)(h:LI H rs sc)(k:∀ {H'},Q (.bool true) H'):c_law X [.ref rs] H Q:=by
 refine⟨rfl,?_⟩
 have F:Fs [("script",.ref rs)] (loB ["script"] [.ref rs] lo0):=Fs.cons (l:=[]) nofun "script" (.ref rs)
 show vG X (loB ["script"] [.ref rs] lo0) H (j3 Q)
 revert F
 generalize loB ["script"] [.ref rs] lo0=lo
 intro F
 unfold vG
 refine aK (law_0 X (F _ _ ⋯) h hl λ{H1 rn ns} x1 hn nl=>aP (aK ?_))
 have F:=F.cons "numbers" (.ref rn)
 generalize upd lo "numbers" (.ref rn)=lo at F
 refine law_1 X (F _ _ ⋯) hn nl λ{H2 r1 r2 O P} x2 h1 h2 l1 l2=>aP (aK ?_)
 have F:=(F.cons "first" (.ref r1)).cons "second" (.ref r2)
 generalize upd (upd lo "first" (.ref r1)) "second" (.ref r2)=lo at F
 refine law_2 X (F _ (.ref r1) ⋯) (F _ (.ref r2) ⋯) h1 h2 l1 l2 λ{H3 rc rk k0 L} PP x3 q1 q2=>aP (aK ?_)
 have F:=(F.cons "changes" (.ref rc)).cons "kept" (.ref rk)
 generalize upd (upd lo "changes" (.ref rc)) "kept" (.ref rk)=lo at F
 refine law_3 X (F _ (.ref r1) ⋯) (F _ (.ref r2) ⋯) (x3.li h1) (x3.li h2) l1 l2 PP λ{H4} x4 M=>aP (aK ?_)
 have F:=F.cons "matcher" (.ref H3.length)
 generalize upd lo "matcher" (.ref H3.length)=lo at F
 refine law_4 X PP (aQ H3) q1 q2 (λo e=>?_) (F.re _ ⋯) x4 M (PP.op.len (Yc147 l1)) λ{lo' H'}=>aP (aK (jX (eI k)))
 have c:=PP.op.cod
 rw[e]at c
 cases c.inv with
 |eq hf p m h=>exact⟨by show(0:Int)<=0+_;exact Yc146 p,by show(0:Int)<=0+_;exact Yc146 p⟩
 |ch hf hg hi hj h=>exact⟨hi,hj⟩
theorem wB(w:World):((KL w.params).lookup cStatics).isSome=true:=by rfl'
theorem zT(w:World){s:Shared}(hk:∀ b o,(H1 w).get? b=some o->s.heap.get? b=some o):s.heap.NoLimit:=⟨_,uO (hk _ _ (t6 w _ _ (Option.eq_some_of_isSome (wB w)))) ⋯,by rfl'⟩
theorem qX{ρ:List Lc}{h:Heap}:∀ (ns:List Int) (ts:List Tok),ts.length=ns.length->VRs ρ h ((ns.zip ts).map λx=>Value.int x.1 x.2) (ns.map V.int)
 | [],ts,_=>by cases ts<;>exact VRs.nil
 |n::ns,[],h=>nomatch h
 |n::ns,t::ts,h=>VRs.cons (VR.int _ _) (qX ns ts (Nat.succ.inj h))
theorem walk(w:World)(s₁:Shared)(a:Addr)(ns:List Int)(ts:List Tok)(hk:∀ b o,(H1 w).get? b=some o->s₁.heap.get? b=some o)(hg:s₁.gens= #[])(ht:ts.length=ns.length)(hn:ns.length<=63)(hl:s₁.heap.IsList a ((ns.zip ts).map λx=>Value.int x.1 x.2).toArray) (h0:(H1 w).get? a=none):wpAny (model pw w) callerA (call (.ref 279) [.ref a]) (λv s'=>v= .bool true/\(∀ b o,s₁.heap.get? b=some o->s'.heap.get? b=some o)/\s'.os=s₁.os/\AllBare s'.gens) (λ_ _=>False) s₁:=by
 have X:XX (mkCx pw w s₁ (zT w hk) (gsh w.params)):=⟨w,hk,λ_ _ _ _=>rfl⟩
 have S:Sim (mkCx pw w s₁ (zT w hk) (gsh w.params)) [.ro (ns.map V.int)] [⟨a,a,none⟩] s₁:=by
  refine⟨rfl,λ_ _ e=>e,λi m l hm hl'=>?_,λi l hl'=>?_,λi j li lj hi hj ne=>?_,λi j li lj k hi hj ne=>?_,rfl,.of_eq hg⟩
  ·cases i with
   |zero=>cases hm;cases hl';exact⟨rfl,rfl,_,hl,qX ns ts ht⟩
   |succ i=>cases hm
  ·cases i with
   |zero=>exact .inl ⟨_,rfl⟩
   |succ i=>cases hl'
  ·cases i with
   |zero=>cases j with
    |zero=>exact absurd rfl ne
    |succ j=>cases hj
   |succ i=>cases hi
  ·cases i with
   |zero=>cases j with
    |zero=>exact absurd rfl ne
    |succ j=>cases hj
   |succ i=>cases hi
 refine wmN ((cv_law X).call (A:=callerA) (vs:=[.ref 0]) (Q:=λv _=>v= .bool true) ⟨rfl,by decide+kernel,by decide+kernel⟩ S (.cons (VR.ref (l:=⟨a,a,none⟩) rfl) .nil) (law_ok X (sc:=ns) hn rfl λ{_}=>rfl)) λx s' p=>?_
 cases p with
 |mk S' N r q=>
  subst q
  cases r
  exact⟨rfl,S'.keep,S'.os,S'.bare⟩
theorem holds02:PySem.Challenge.rw_dm0053_02.Holds:=head walk
end
end Mine
theorem PySem.Challenge.cw_dm0053_02_holds : PySem.Challenge.rw_dm0053_02.Holds :=
 Mine.holds02
